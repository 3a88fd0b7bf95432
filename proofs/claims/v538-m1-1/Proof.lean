import JvmDerived
import JvmDerived.Pilot.@@N@@Statement
import JvmDerived.Pilot.@@N@@Code
set_option linter.unusedVariables false
set_option linter.unusedSimpArgs false

namespace Jvm.Pilot.@@N@@
open Jvm Jvm.ClassFile Sem Op Lib Jvm.Free Jvm.Stand Jvm.LawKit Jvm.RoadKit Bundle Jvm.Pilot.@@N@@.Jvm.D
/-! own text: the run of a body in continuation form -/
section OwnKit
variable {wd : Bool} {p : Program} {l : Launch} {e : Env} {R : Room} {s : State} {m : MethodId} {args : Array Value} {below : List Frame} {meth : Method} {c : Code} {T : State} {locs : List Loc} {cells slots : Nat} {Z : State} {a0 : Array Value} {h : Heap} {Qb : Option Value → Heap → List Loc → Prop} {kc ks : Nat}
/-- from the state T with the frame g on top the run comes to the end of the body, and there Qb holds -/
def FE (wd : Bool) (s : State) (o : Outcome) (t : State) (L : List Loc) (k n : Nat) : Prop := match wd with
  | false => FrameEnd s o t L k n
  | true => ReturnedEndW s o t L k n
theorem FE.of {s t : State} {o : Outcome} {L : List Loc} {k n : Nat} {wd : Bool} (h : FrameEnd s o t L k n) : FE wd s o t L k n := by
  cases wd
  · exact h
  · exact ReturnedEndW.of_narrow h.1 h.2.1 h.2.2
def Ends (wd : Bool) (p : Program) (e : Env) (below : List Frame) (s : State) (Qb : Option Value → Heap → List Loc → Prop) (kc ks : Nat) (T : State) (g : JFrame) : Prop :=
  ∃ s₂ o, Steps p.tables e below (T.setTop g) s₂ ∧ s₂.status = .running ∧ Ended s₂ below o ∧ ∃ v L, o = .returned v ∧ Qb v s₂.heap L ∧ FE wd s o s₂ L kc ks
theorem Ends.go {T T' : State} {g g' : JFrame} (h : ∀ t, Steps p.tables e below (T'.setTop g') t → Steps p.tables e below (T.setTop g) t) (k : Ends wd p e below s Qb kc ks T' g') : Ends wd p e below s Qb kc ks T g := by
  obtain ⟨s2, o, st, r⟩ := k
  exact ⟨s2, o, h _ st, r⟩
theorem Ends.cast {T : State} {g g' : JFrame} (h : g = g') (k : Ends wd p e below s Qb kc ks T g') : Ends wd p e below s Qb kc ks T g := h ▸ k
abbrev Con (l : Launch) (y : MethodName) (code : ByteArray) (ml : Nat) (rt : Option FieldType) (ws : List Jvm.Cond) (rm : Room) (as' : Array Value) (Z : State) (h0 : Heap) (Q : Option Value → Heap → List Loc → Prop) : Prop :=
  MetFree l y (head1 (Jvm.Cond.code y code ml rt :: ws) rm) (fun a U => a = as' ∧ Z.Warmed39 U.vm ∧ U.heap = h0) (fun _ _ _ _ _ => True) (fun _ U o U' => ∃ v L, o = .returned v ∧ Q v U'.heap L ∧ FrameEnd U o U' L rm.cells rm.slots)
theorem Con.of {y : MethodName} {code : ByteArray} {ml : Nat} {rt : Option FieldType} {ws : List Jvm.Cond} {rm : Room} {as' : Array Value} {h0 : Heap} {Q : Option Value → Heap → List Loc → Prop} (hp : plainFor y = true)
    (k : ∀ (p : Program) (e : Env) (s : State) (m : MethodId) (below : List Frame) (meth : Method) (c : Code) (s₁ : State), p.tables.exec = Jvm.exec → Z.Warmed39 s.vm → c.code = code → c.maxLocals = ml → s.vm.findClass y.cls = some m.cls → meth.name = y.name → meth.sig.returnType = rt → meth.locks = false →
      Stand p l e rm s m as' below meth c s₁ [] 0 0 → s₁.heap = h0 → Ends false p e below s Q rm.cells rm.slots s₁ (entryFrame m as' ml)) : Con l y code ml rt ws rm as' Z h0 Q := by
  refine MetFree.of_bodySF hp hisR ?_
  intro p e s m args below meth c s₁ Bd hml0 hP hK
  obtain ⟨rfl, hZ, hh⟩ := hP
  exact k p e s m below meth c s₁ Bd.exec hZ Bd.bytes hml0 (findClass_of_methodNamed Bd.named) (name_of_methodNamed Bd.named Bd.method).1 Bd.returns Bd.notSynchronized (Stand.of_body Bd) (by rw [← hh, Bd.state]; rfl)
theorem Ends.ret (X : Stand p l e R s m args below meth c T locs cells slots) (hx : p.tables.exec = Jvm.exec) (hlk : meth.locks = false) {pc : Nat} {Ls : Array Slot} {w : Value} {t : FieldType} {i : Instr} {rest : List Value} (hret : meth.sig.returnType = some t) (hn : narrow t w = w)
    (hi : (i = .ireturn ∧ (t = .int ∨ t = .boolean ∨ t = .byte ∨ t = .char ∨ t = .short) ∧ ∃ z, w = .int z) ∨ (i = .lreturn ∧ t = .long ∧ ∃ z, w = .long z) ∨ (i = .dreturn ∧ t = .double ∧ ∃ z, w = .double z) ∨ (i = .freturn ∧ t = .float ∧ ∃ z, w = .float z) ∨ (i = .areturn ∧ t.isReference = true ∧ w.isRef = true))
    (hd : decode c.code pc = .ok (i, 1)) (hc : cells ≤ kc) (hs : slots ≤ ks) (hQ : Qb (some w) T.heap locs) : Ends wd p e below s Qb kc ks T (mkF m pc Ls (w :: rest)) := by
  obtain ⟨fs, hr, hrun, hended, hW, hsame⟩ := X.leave (v := some w) (fun h => by rw [hret] at h; cases h) hlk
  exact ⟨_, _, retOut X hx hret hn hi hd hr, hrun, hended, _, _, rfl, hQ, FE.of ⟨⟨_, rfl⟩, hW, hsame.mono hc hs⟩⟩
theorem Ends.retI (X : Stand p l e R s m args below meth c T locs cells slots) (hx : p.tables.exec = Jvm.exec) (hlk : meth.locks = false) {pc : Nat} {Ls : Array Slot} {z : Int32} {rest : List Value} (hret : meth.sig.returnType = some .int) (hd : decode c.code pc = .ok (.ireturn, 1)) (hc : cells ≤ kc) (hs : slots ≤ ks) (hQ : Qb (some (.int z)) T.heap locs) : Ends wd p e below s Qb kc ks T (mkF m pc Ls (.int z :: rest)) :=
  Ends.ret X hx hlk hret rfl (Or.inl ⟨rfl, Or.inl rfl, _, rfl⟩) hd hc hs hQ
theorem Ends.retJ (X : Stand p l e R s m args below meth c T locs cells slots) (hx : p.tables.exec = Jvm.exec) (hlk : meth.locks = false) {pc : Nat} {Ls : Array Slot} {z : Int64} {rest : List Value} (hret : meth.sig.returnType = some .long) (hd : decode c.code pc = .ok (.lreturn, 1)) (hc : cells ≤ kc) (hs : slots ≤ ks) (hQ : Qb (some (.long z)) T.heap locs) : Ends wd p e below s Qb kc ks T (mkF m pc Ls (.long z :: rest)) :=
  Ends.ret X hx hlk hret rfl (Or.inr (Or.inl ⟨rfl, rfl, _, rfl⟩)) hd hc hs hQ
theorem Ends.retS (X : Stand p l e R s m args below meth c T locs cells slots) (hx : p.tables.exec = Jvm.exec) (hlk : meth.locks = false) {pc : Nat} {Ls : Array Slot} {z : Int32} {t : FieldType} {rest : List Value} (hret : meth.sig.returnType = some t) (ht : t = .boolean ∨ t = .byte ∨ t = .char ∨ t = .short) (hn : narrow t (.int z) = .int z) (hd : decode c.code pc = .ok (.ireturn, 1)) (hc : cells ≤ kc) (hs : slots ≤ ks) (hQ : Qb (some (.int z)) T.heap locs) : Ends wd p e below s Qb kc ks T (mkF m pc Ls (.int z :: rest)) :=
  Ends.ret X hx hlk hret hn (Or.inl ⟨rfl, Or.inr ht, _, rfl⟩) hd hc hs hQ
theorem Ends.retA (X : Stand p l e R s m args below meth c T locs cells slots) (hx : p.tables.exec = Jvm.exec) (hlk : meth.locks = false) {pc : Nat} {Ls : Array Slot} {w : Value} {t : FieldType} {rest : List Value} (hret : meth.sig.returnType = some t) (ht : t.isReference = true) (hw : w.isRef = true) (hn : narrow t w = w) (hd : decode c.code pc = .ok (.areturn, 1)) (hc : cells ≤ kc) (hs : slots ≤ ks) (hQ : Qb (some w) T.heap locs) : Ends wd p e below s Qb kc ks T (mkF m pc Ls (w :: rest)) :=
  Ends.ret X hx hlk hret hn (Or.inr (Or.inr (Or.inr (Or.inr ⟨rfl, ht, hw⟩)))) hd hc hs hQ
theorem Ends.retV (X : Stand p l e R s m args below meth c T locs cells slots) (hx : p.tables.exec = Jvm.exec) (hlk : meth.locks = false) {pc : Nat} {Ls : Array Slot} (hret : meth.sig.returnType = none) (hd : decode c.code pc = .ok (.return_, 1)) (hc : cells ≤ kc) (hs : slots ≤ ks) (hQ : Qb none T.heap locs) : Ends wd p e below s Qb kc ks T (mkF m pc Ls []) := by
  obtain ⟨fs, hr, hrun, hended, hW, hsame⟩ := X.leave (v := none) (fun _ => rfl) hlk
  exact ⟨_, _, X.returnOut hx hret hd hr, hrun, hended, _, _, rfl, hQ, FE.of ⟨⟨_, rfl⟩, hW, hsame.mono hc hs⟩⟩
/-- a static call by its contract -/
theorem Ends.callS (X : Stand p l e R s m args below meth c T locs cells slots) (hx : p.tables.exec = Jvm.exec) (hZ : Z.Warmed39 s.vm) {own : String} (hown : s.vm.findClass own = some m.cls) {index : Nat} {y : MethodName} {bytes : ByteArray} {maxL : Nat} {rt : Option FieldType} {rm : Room} {Q : Option Value → Heap → List Loc → Prop}
    (w1 : (Jvm.Cond.methodLink own index y).before a0 Z = true) (w2 : (Jvm.Cond.static y).before a0 Z = true) (w3 : (Jvm.Cond.initialized y.cls).before a0 Z = true) (w4 : (Jvm.Cond.code y bytes maxL rt).before a0 Z = true) (hy : y.cls ≠ "java/lang/invoke/MethodHandle" ∧ y.cls ≠ "java/lang/invoke/VarHandle")
    {argsL rest : List Value} (eT : T.heap = h) (M : Con l y bytes maxL rt [] rm argsL.toArray Z h Q) {W pc : Nat} (hf : rm.frames + 1 ≤ R.frames) (hl : W + (maxL + 11) + rm.locals ≤ R.locals) {Ls : Array Slot} (hsz : Ls.size = c.maxLocals)
    (hlen : ∀ sig, parseMethodDescriptor y.desc = some sig → argsL.length = sig.parameters.length) (hW : (rest.map fun v => v.category).sum ≤ W) (hd : decode c.code pc = .ok (.invokestatic index, 3)) (hc : cells + rm.cells ≤ R.cells) (hs : slots + rm.slots ≤ R.slots) {st : List Value} (hst : st = argsL.reverse ++ rest)
    (k : ∀ T' v L, Stand p l e R s m args below meth c T' (locs ++ L) (cells + rm.cells) (slots + rm.slots) → Q v T'.heap L → Ends wd p e below s Qb kc ks T' (mkF m (pc + 3) Ls (v.toList ++ rest))) :
    Ends wd p e below s Qb kc ks T (mkF m pc Ls st) := by
  obtain ⟨v, vm1, ⟨T1, L1, k1, n1⟩, -, X1, ⟨Lc, hQ, q1, q2, q3⟩, st1⟩ := Jvm.LawKit.callS X hx hown (mvT hZ w1) (mvT hZ w2) (mvT hZ w3) (mvT hZ w4) hy (backOf (W := W) M hZ w4 w3 hf hl) (g := mkF m pc Ls st) rfl hsz (argsL := argsL) (rest := rest) hlen hst (by show 2 * 0 + _ ≤ _; omega) hd (fun _ _ => ⟨rfl, eT, hc, hs⟩)
  dsimp only [Pt.U, Pt.locs, Pt.cells, Pt.slots] at X1 q1 q2 q3 st1 hQ
  subst q1 q2 q3
  exact Ends.go st1 (k T1 v Lc X1 hQ)
/-- a constructor by its contract -/
theorem Ends.callI (X : Stand p l e R s m args below meth c T locs cells slots) (hx : p.tables.exec = Jvm.exec) (hZ : Z.Warmed39 s.vm) {own : String} (hown : s.vm.findClass own = some m.cls) {index : Nat} {y : MethodName} {bytes : ByteArray} {maxL : Nat} {rm : Room} {Q : Option Value → Heap → List Loc → Prop}
    (w1 : (Jvm.Cond.methodLink own index y).before a0 Z = true) (w2 : (Jvm.Cond.instanceMethod y).before a0 Z = true) (w3 : (Jvm.Cond.initialized y.cls).before a0 Z = true) (w4 : (Jvm.Cond.code y bytes maxL none).before a0 Z = true) (hyn : y.name = "<init>") (hy : y.cls ≠ "java/lang/invoke/MethodHandle" ∧ y.cls ≠ "java/lang/invoke/VarHandle")
    {b : Addr} {argsL rest : List Value} (eT : T.heap = h) (M : Con l y bytes maxL none [] rm (.ref b :: argsL).toArray Z h Q) {W pc : Nat} (hf : rm.frames + 1 ≤ R.frames) (hl : W + (maxL + 11) + rm.locals ≤ R.locals) {Ls : Array Slot} (hsz : Ls.size = c.maxLocals)
    (hlen : ∀ sig, parseMethodDescriptor y.desc = some sig → argsL.length = sig.parameters.length) (hW : (rest.map fun v => v.category).sum ≤ W) (hd : decode c.code pc = .ok (.invokespecial index, 3)) (hc : cells + rm.cells ≤ R.cells) (hs : slots + rm.slots ≤ R.slots) {st : List Value} (hst : st = argsL.reverse ++ .ref b :: rest)
    (k : ∀ T' v L, Stand p l e R s m args below meth c T' (locs ++ L) (cells + rm.cells) (slots + rm.slots) → Q v T'.heap L → Ends wd p e below s Qb kc ks T' (mkF m (pc + 3) Ls (v.toList ++ rest))) :
    Ends wd p e below s Qb kc ks T (mkF m pc Ls st) := by
  obtain ⟨v, vm1, ⟨T1, L1, k1, n1⟩, -, X1, ⟨Lc, hQ, q1, q2, q3⟩, st1⟩ := X.specialBack hx hyn hown (mvT hZ w1) (mvT hZ w2) (mvT hZ w4) hy (backOf (W := W) M hZ w4 w3 hf hl) (g := mkF m pc Ls st) rfl hsz (Steps.refl _) (a := b) (argsL := argsL) (rest := rest) hlen hst (by show 2 * 0 + _ ≤ _; omega) hd (fun _ _ => ⟨rfl, eT, hc, hs⟩)
  dsimp only [Pt.U, Pt.locs, Pt.cells, Pt.slots] at X1 q1 q2 q3 st1 hQ
  subst q1 q2 q3
  exact Ends.go (fun t kt => st1.trans kt) (k T1 v Lc X1 hQ)
/-- an instance method by its contract -/
theorem Ends.callV (X : Stand p l e R s m args below meth c T locs cells slots) (hx : p.tables.exec = Jvm.exec) (hZ : Z.Warmed39 s.vm) {own C : String} (hown : s.vm.findClass own = some m.cls) {index : Nat} {y : MethodName} {bytes : ByteArray} {maxL : Nat} {rt : Option FieldType} {rm : Room} {Q : Option Value → Heap → List Loc → Prop}
    (w1 : (Jvm.Cond.methodLink own index y).before a0 Z = true) (w2 : (Jvm.Cond.declares y).before a0 Z = true) (w5 : (Jvm.Cond.selects C y y).before a0 Z = true) (w6 : (Jvm.Cond.instanceMethod y).before a0 Z = true) (w3 : (Jvm.Cond.initialized y.cls).before a0 Z = true) (w4 : (Jvm.Cond.code y bytes maxL rt).before a0 Z = true) (hy : y.cls ≠ "java/lang/invoke/MethodHandle" ∧ y.cls ≠ "java/lang/invoke/VarHandle")
    {b : Addr} {argsL rest : List Value} (eT : T.heap = h) (E : Exa Z h b C) (M : Con l y bytes maxL rt [] rm (.ref b :: argsL).toArray Z h Q) {W pc : Nat} (hf : rm.frames + 1 ≤ R.frames) (hl : W + (maxL + 11) + rm.locals ≤ R.locals) {Ls : Array Slot} (hsz : Ls.size = c.maxLocals)
    (hlen : ∀ sig, parseMethodDescriptor y.desc = some sig → argsL.length = sig.parameters.length) (hW : (rest.map fun v => v.category).sum ≤ W) (hd : decode c.code pc = .ok (.invokevirtual index, 3)) (hc : cells + rm.cells ≤ R.cells) (hs : slots + rm.slots ≤ R.slots) {st : List Value} (hst : st = argsL.reverse ++ .ref b :: rest)
    (k : ∀ T' v L, Stand p l e R s m args below meth c T' (locs ++ L) (cells + rm.cells) (slots + rm.slots) → Q v T'.heap L → Ends wd p e below s Qb kc ks T' (mkF m (pc + 3) Ls (v.toList ++ rest))) :
    Ends wd p e below s Qb kc ks T (mkF m pc Ls st) := by
  obtain ⟨cq, kq, qa, qb, qc⟩ := isOf (T := T) hZ eT E
  obtain ⟨v, vm1, ⟨T1, L1, k1, n1⟩, -, X1, ⟨Lc, hQ, q1, q2, q3⟩, st1⟩ := X.virtualBack hx (y := y) (z := y) hown (mvT hZ w1) (mvT hZ w2) (notFace_of_selects (args := #[]) (mvT hZ w5)) (mvT hZ w5) (mvT hZ w6) hy (backOf (W := W) M hZ w4 w3 hf hl) qa qc (g := mkF m pc Ls st) rfl hsz (Steps.refl _) (argsL := argsL) (rest := rest) hlen hst (by show 2 * 0 + _ ≤ _; omega) hd (fun _ _ => ⟨rfl, eT, hc, hs⟩)
  dsimp only [Pt.U, Pt.locs, Pt.cells, Pt.slots] at X1 q1 q2 q3 st1 hQ
  subst q1 q2 q3
  exact Ends.go (fun t kt => st1.trans kt) (k T1 v Lc X1 hQ)
end OwnKit
/-! own text, printed by mksteps.py: one lemma a plain instruction -/
section OwnSteps
variable {wd : Bool} {p : Program} {l : Launch} {e : Env} {R : Room} {s : State} {m : MethodId} {args : Array Value} {below : List Frame} {meth : Method} {c : Code} {T : State} {locs : List Loc} {cells slots : Nat} {Z : State} {a0 : Array Value} {h : Heap} {Qb : Option Value → Heap → List Loc → Prop} {kc ks : Nat} {Ls l' : Array Slot} {st : List Value} {pc q k : Nat} {kf : Fin 4} {k2 : Fin 2}
theorem E.iload {v : Int32} (X : Stand p l e R s m args below meth c T locs cells slots) (hx : p.tables.exec = Jvm.exec) (hd : decode c.code pc = .ok (.iload k, 2)) (hl : Ls[k]? = some (.val (.int v))) (k' : Ends wd p e below s Qb kc ks T (mkF m q Ls (.int v :: st))) (hq : pc + 2 = q := by rfl) : Ends wd p e below s Qb kc ks T (mkF m pc Ls st) := by
  subst hq; exact Ends.go (fun t => XS.iload X.here hx rfl hd hl) k'
theorem E.iloadN {v : Int32} (X : Stand p l e R s m args below meth c T locs cells slots) (hx : p.tables.exec = Jvm.exec) (hd : decode c.code pc = .ok (.iload_n kf, 1)) (hl : Ls[kf.val]? = some (.val (.int v))) (k' : Ends wd p e below s Qb kc ks T (mkF m q Ls (.int v :: st))) (hq : pc + 1 = q := by rfl) : Ends wd p e below s Qb kc ks T (mkF m pc Ls st) := by
  subst hq; exact Ends.go (fun t => XS.iloadN X.here hx rfl hd hl) k'
theorem E.istore {v : Int32} (X : Stand p l e R s m args below meth c T locs cells slots) (hx : p.tables.exec = Jvm.exec) (hd : decode c.code pc = .ok (.istore k, 2)) (hl : storeLocals Ls k (.int v) = some l') (k' : Ends wd p e below s Qb kc ks T (mkF m q l' st)) (hq : pc + 2 = q := by rfl) : Ends wd p e below s Qb kc ks T (mkF m pc Ls (.int v :: st)) := by
  subst hq; exact Ends.go (fun t => XS.istore X.here hx rfl hd rfl hl) k'
theorem E.istoreN {v : Int32} (X : Stand p l e R s m args below meth c T locs cells slots) (hx : p.tables.exec = Jvm.exec) (hd : decode c.code pc = .ok (.istore_n kf, 1)) (hl : storeLocals Ls kf.val (.int v) = some l') (k' : Ends wd p e below s Qb kc ks T (mkF m q l' st)) (hq : pc + 1 = q := by rfl) : Ends wd p e below s Qb kc ks T (mkF m pc Ls (.int v :: st)) := by
  subst hq; exact Ends.go (fun t => XS.istoreN X.here hx rfl hd rfl hl) k'
theorem E.lload {v : Int64} (X : Stand p l e R s m args below meth c T locs cells slots) (hx : p.tables.exec = Jvm.exec) (hd : decode c.code pc = .ok (.lload k, 2)) (hl : Ls[k]? = some (.val (.long v))) (k' : Ends wd p e below s Qb kc ks T (mkF m q Ls (.long v :: st))) (hq : pc + 2 = q := by rfl) : Ends wd p e below s Qb kc ks T (mkF m pc Ls st) := by
  subst hq; exact Ends.go (fun t => XS.lload X.here hx rfl hd hl) k'
theorem E.lloadN {v : Int64} (X : Stand p l e R s m args below meth c T locs cells slots) (hx : p.tables.exec = Jvm.exec) (hd : decode c.code pc = .ok (.lload_n kf, 1)) (hl : Ls[kf.val]? = some (.val (.long v))) (k' : Ends wd p e below s Qb kc ks T (mkF m q Ls (.long v :: st))) (hq : pc + 1 = q := by rfl) : Ends wd p e below s Qb kc ks T (mkF m pc Ls st) := by
  subst hq; exact Ends.go (fun t => XS.lloadN X.here hx rfl hd hl) k'
theorem E.lstore {v : Int64} (X : Stand p l e R s m args below meth c T locs cells slots) (hx : p.tables.exec = Jvm.exec) (hd : decode c.code pc = .ok (.lstore k, 2)) (hl : storeLocals Ls k (.long v) = some l') (k' : Ends wd p e below s Qb kc ks T (mkF m q l' st)) (hq : pc + 2 = q := by rfl) : Ends wd p e below s Qb kc ks T (mkF m pc Ls (.long v :: st)) := by
  subst hq; exact Ends.go (fun t => XS.lstore X.here hx rfl hd rfl hl) k'
theorem E.lstoreN {v : Int64} (X : Stand p l e R s m args below meth c T locs cells slots) (hx : p.tables.exec = Jvm.exec) (hd : decode c.code pc = .ok (.lstore_n kf, 1)) (hl : storeLocals Ls kf.val (.long v) = some l') (k' : Ends wd p e below s Qb kc ks T (mkF m q l' st)) (hq : pc + 1 = q := by rfl) : Ends wd p e below s Qb kc ks T (mkF m pc Ls (.long v :: st)) := by
  subst hq; exact Ends.go (fun t => XS.lstoreN X.here hx rfl hd rfl hl) k'
theorem E.dload {v : UInt64} (X : Stand p l e R s m args below meth c T locs cells slots) (hx : p.tables.exec = Jvm.exec) (hd : decode c.code pc = .ok (.dload k, 2)) (hl : Ls[k]? = some (.val (.double v))) (k' : Ends wd p e below s Qb kc ks T (mkF m q Ls (.double v :: st))) (hq : pc + 2 = q := by rfl) : Ends wd p e below s Qb kc ks T (mkF m pc Ls st) := by
  subst hq; exact Ends.go (fun t => XS.dload X.here hx rfl hd hl) k'
theorem E.dloadN {v : UInt64} (X : Stand p l e R s m args below meth c T locs cells slots) (hx : p.tables.exec = Jvm.exec) (hd : decode c.code pc = .ok (.dload_n kf, 1)) (hl : Ls[kf.val]? = some (.val (.double v))) (k' : Ends wd p e below s Qb kc ks T (mkF m q Ls (.double v :: st))) (hq : pc + 1 = q := by rfl) : Ends wd p e below s Qb kc ks T (mkF m pc Ls st) := by
  subst hq; exact Ends.go (fun t => XS.dloadN X.here hx rfl hd hl) k'
theorem E.dstore {v : UInt64} (X : Stand p l e R s m args below meth c T locs cells slots) (hx : p.tables.exec = Jvm.exec) (hd : decode c.code pc = .ok (.dstore k, 2)) (hl : storeLocals Ls k (.double v) = some l') (k' : Ends wd p e below s Qb kc ks T (mkF m q l' st)) (hq : pc + 2 = q := by rfl) : Ends wd p e below s Qb kc ks T (mkF m pc Ls (.double v :: st)) := by
  subst hq; exact Ends.go (fun t => XS.dstore X.here hx rfl hd rfl hl) k'
theorem E.dstoreN {v : UInt64} (X : Stand p l e R s m args below meth c T locs cells slots) (hx : p.tables.exec = Jvm.exec) (hd : decode c.code pc = .ok (.dstore_n kf, 1)) (hl : storeLocals Ls kf.val (.double v) = some l') (k' : Ends wd p e below s Qb kc ks T (mkF m q l' st)) (hq : pc + 1 = q := by rfl) : Ends wd p e below s Qb kc ks T (mkF m pc Ls (.double v :: st)) := by
  subst hq; exact Ends.go (fun t => XS.dstoreN X.here hx rfl hd rfl hl) k'
theorem E.aload {v : Value} (X : Stand p l e R s m args below meth c T locs cells slots) (hx : p.tables.exec = Jvm.exec) (hd : decode c.code pc = .ok (.aload k, 2)) (hl : Ls[k]? = some (.val v)) (hv : v.isRef = true) (k' : Ends wd p e below s Qb kc ks T (mkF m q Ls (v :: st))) (hq : pc + 2 = q := by rfl) : Ends wd p e below s Qb kc ks T (mkF m pc Ls st) := by
  subst hq; exact Ends.go (fun t => XS.aload X.here hx rfl hd hl hv) k'
theorem E.aloadN {v : Value} (X : Stand p l e R s m args below meth c T locs cells slots) (hx : p.tables.exec = Jvm.exec) (hd : decode c.code pc = .ok (.aload_n kf, 1)) (hl : Ls[kf.val]? = some (.val v)) (hv : v.isRef = true) (k' : Ends wd p e below s Qb kc ks T (mkF m q Ls (v :: st))) (hq : pc + 1 = q := by rfl) : Ends wd p e below s Qb kc ks T (mkF m pc Ls st) := by
  subst hq; exact Ends.go (fun t => XS.aloadN X.here hx rfl hd hl hv) k'
theorem E.astore {v : Value} (X : Stand p l e R s m args below meth c T locs cells slots) (hx : p.tables.exec = Jvm.exec) (hd : decode c.code pc = .ok (.astore k, 2)) (hv : v.isRef = true) (hl : storeLocals Ls k v = some l') (k' : Ends wd p e below s Qb kc ks T (mkF m q l' st)) (hq : pc + 2 = q := by rfl) : Ends wd p e below s Qb kc ks T (mkF m pc Ls (v :: st)) := by
  subst hq; exact Ends.go (fun t => XS.astore X.here hx rfl hd rfl hv hl) k'
theorem E.astoreN {v : Value} (X : Stand p l e R s m args below meth c T locs cells slots) (hx : p.tables.exec = Jvm.exec) (hd : decode c.code pc = .ok (.astore_n kf, 1)) (hv : v.isRef = true) (hl : storeLocals Ls kf.val v = some l') (k' : Ends wd p e below s Qb kc ks T (mkF m q l' st)) (hq : pc + 1 = q := by rfl) : Ends wd p e below s Qb kc ks T (mkF m pc Ls (v :: st)) := by
  subst hq; exact Ends.go (fun t => XS.astoreN X.here hx rfl hd rfl hv hl) k'
theorem E.iconst {i : Int} {v : Int32} (X : Stand p l e R s m args below meth c T locs cells slots) (hx : p.tables.exec = Jvm.exec) (hd : decode c.code pc = .ok (.iconst i, 1)) (hv : Int32.ofInt i = v) (k' : Ends wd p e below s Qb kc ks T (mkF m q Ls (.int v :: st))) (hq : pc + 1 = q := by rfl) : Ends wd p e below s Qb kc ks T (mkF m pc Ls st) := by
  subst hq; subst hv; exact Ends.go (fun t => XS.iconst X.here hx rfl hd) k'
theorem E.bipush {i : Int} {v : Int32} (X : Stand p l e R s m args below meth c T locs cells slots) (hx : p.tables.exec = Jvm.exec) (hd : decode c.code pc = .ok (.bipush i, 2)) (hv : (Int8.ofInt i).toInt32 = v) (k' : Ends wd p e below s Qb kc ks T (mkF m q Ls (.int v :: st))) (hq : pc + 2 = q := by rfl) : Ends wd p e below s Qb kc ks T (mkF m pc Ls st) := by
  subst hq; subst hv; exact Ends.go (fun t => XS.bipush X.here hx rfl hd) k'
theorem E.sipush {i : Int} {v : Int32} (X : Stand p l e R s m args below meth c T locs cells slots) (hx : p.tables.exec = Jvm.exec) (hd : decode c.code pc = .ok (.sipush i, 3)) (hv : (Int16.ofInt i).toInt32 = v) (k' : Ends wd p e below s Qb kc ks T (mkF m q Ls (.int v :: st))) (hq : pc + 3 = q := by rfl) : Ends wd p e below s Qb kc ks T (mkF m pc Ls st) := by
  subst hq; subst hv; exact Ends.go (fun t => XS.sipush X.here hx rfl hd) k'
theorem E.lconst {v : Int64} (X : Stand p l e R s m args below meth c T locs cells slots) (hx : p.tables.exec = Jvm.exec) (hd : decode c.code pc = .ok (.lconst k2, 1)) (hv : Int64.ofNat k2 = v) (k' : Ends wd p e below s Qb kc ks T (mkF m q Ls (.long v :: st))) (hq : pc + 1 = q := by rfl) : Ends wd p e below s Qb kc ks T (mkF m pc Ls st) := by
  subst hq; subst hv; exact Ends.go (fun t => XS.lconst X.here hx rfl hd) k'
theorem E.dconst0 {v : UInt64} (X : Stand p l e R s m args below meth c T locs cells slots) (hx : p.tables.exec = Jvm.exec) (hd : decode c.code pc = .ok (.dconst 0, 1)) (hv : FP.dconst0 = v) (k' : Ends wd p e below s Qb kc ks T (mkF m q Ls (.double v :: st))) (hq : pc + 1 = q := by rfl) : Ends wd p e below s Qb kc ks T (mkF m pc Ls st) := by
  subst hq; exact Ends.go (fun t => XS.dconst0 X.here hx rfl hd hv) k'
theorem E.dconst1 {v : UInt64} (X : Stand p l e R s m args below meth c T locs cells slots) (hx : p.tables.exec = Jvm.exec) (hd : decode c.code pc = .ok (.dconst 1, 1)) (hv : FP.dconst1 = v) (k' : Ends wd p e below s Qb kc ks T (mkF m q Ls (.double v :: st))) (hq : pc + 1 = q := by rfl) : Ends wd p e below s Qb kc ks T (mkF m pc Ls st) := by
  subst hq; exact Ends.go (fun t => XS.dconst1 X.here hx rfl hd hv) k'
theorem E.aconstNull  (X : Stand p l e R s m args below meth c T locs cells slots) (hx : p.tables.exec = Jvm.exec) (hd : decode c.code pc = .ok (.aconst_null, 1)) (k' : Ends wd p e below s Qb kc ks T (mkF m q Ls (.null :: st))) (hq : pc + 1 = q := by rfl) : Ends wd p e below s Qb kc ks T (mkF m pc Ls st) := by
  subst hq; exact Ends.go (fun t => XS.aconstNull X.here hx rfl hd) k'
theorem E.iadd {x y : Int32} (X : Stand p l e R s m args below meth c T locs cells slots) (hx : p.tables.exec = Jvm.exec) (hd : decode c.code pc = .ok (.iadd, 1)) (k' : Ends wd p e below s Qb kc ks T (mkF m q Ls (.int (x + y) :: st))) (hq : pc + 1 = q := by rfl) : Ends wd p e below s Qb kc ks T (mkF m pc Ls (.int y :: .int x :: st)) := by
  subst hq; exact Ends.go (fun t => XS.iadd X.here hx rfl hd rfl) k'
theorem E.isub {x y : Int32} (X : Stand p l e R s m args below meth c T locs cells slots) (hx : p.tables.exec = Jvm.exec) (hd : decode c.code pc = .ok (.isub, 1)) (k' : Ends wd p e below s Qb kc ks T (mkF m q Ls (.int (x - y) :: st))) (hq : pc + 1 = q := by rfl) : Ends wd p e below s Qb kc ks T (mkF m pc Ls (.int y :: .int x :: st)) := by
  subst hq; exact Ends.go (fun t => XS.isub X.here hx rfl hd rfl) k'
theorem E.imul {x y : Int32} (X : Stand p l e R s m args below meth c T locs cells slots) (hx : p.tables.exec = Jvm.exec) (hd : decode c.code pc = .ok (.imul, 1)) (k' : Ends wd p e below s Qb kc ks T (mkF m q Ls (.int (x * y) :: st))) (hq : pc + 1 = q := by rfl) : Ends wd p e below s Qb kc ks T (mkF m pc Ls (.int y :: .int x :: st)) := by
  subst hq; exact Ends.go (fun t => XS.imul X.here hx rfl hd rfl) k'
theorem E.iand {x y : Int32} (X : Stand p l e R s m args below meth c T locs cells slots) (hx : p.tables.exec = Jvm.exec) (hd : decode c.code pc = .ok (.iand, 1)) (k' : Ends wd p e below s Qb kc ks T (mkF m q Ls (.int (x &&& y) :: st))) (hq : pc + 1 = q := by rfl) : Ends wd p e below s Qb kc ks T (mkF m pc Ls (.int y :: .int x :: st)) := by
  subst hq; exact Ends.go (fun t => XS.iand X.here hx rfl hd rfl) k'
theorem E.ior {x y : Int32} (X : Stand p l e R s m args below meth c T locs cells slots) (hx : p.tables.exec = Jvm.exec) (hd : decode c.code pc = .ok (.ior, 1)) (k' : Ends wd p e below s Qb kc ks T (mkF m q Ls (.int (x ||| y) :: st))) (hq : pc + 1 = q := by rfl) : Ends wd p e below s Qb kc ks T (mkF m pc Ls (.int y :: .int x :: st)) := by
  subst hq; exact Ends.go (fun t => XS.ior X.here hx rfl hd rfl) k'
theorem E.ixor {x y : Int32} (X : Stand p l e R s m args below meth c T locs cells slots) (hx : p.tables.exec = Jvm.exec) (hd : decode c.code pc = .ok (.ixor, 1)) (k' : Ends wd p e below s Qb kc ks T (mkF m q Ls (.int (x ^^^ y) :: st))) (hq : pc + 1 = q := by rfl) : Ends wd p e below s Qb kc ks T (mkF m pc Ls (.int y :: .int x :: st)) := by
  subst hq; exact Ends.go (fun t => XS.ixor X.here hx rfl hd rfl) k'
theorem E.ladd {x y : Int64} (X : Stand p l e R s m args below meth c T locs cells slots) (hx : p.tables.exec = Jvm.exec) (hd : decode c.code pc = .ok (.ladd, 1)) (k' : Ends wd p e below s Qb kc ks T (mkF m q Ls (.long (x + y) :: st))) (hq : pc + 1 = q := by rfl) : Ends wd p e below s Qb kc ks T (mkF m pc Ls (.long y :: .long x :: st)) := by
  subst hq; exact Ends.go (fun t => XS.ladd X.here hx rfl hd rfl) k'
theorem E.lsub {x y : Int64} (X : Stand p l e R s m args below meth c T locs cells slots) (hx : p.tables.exec = Jvm.exec) (hd : decode c.code pc = .ok (.lsub, 1)) (k' : Ends wd p e below s Qb kc ks T (mkF m q Ls (.long (x - y) :: st))) (hq : pc + 1 = q := by rfl) : Ends wd p e below s Qb kc ks T (mkF m pc Ls (.long y :: .long x :: st)) := by
  subst hq; exact Ends.go (fun t => XS.lsub X.here hx rfl hd rfl) k'
theorem E.lmul {x y : Int64} (X : Stand p l e R s m args below meth c T locs cells slots) (hx : p.tables.exec = Jvm.exec) (hd : decode c.code pc = .ok (.lmul, 1)) (k' : Ends wd p e below s Qb kc ks T (mkF m q Ls (.long (x * y) :: st))) (hq : pc + 1 = q := by rfl) : Ends wd p e below s Qb kc ks T (mkF m pc Ls (.long y :: .long x :: st)) := by
  subst hq; exact Ends.go (fun t => XS.lmul X.here hx rfl hd rfl) k'
theorem E.land {x y : Int64} (X : Stand p l e R s m args below meth c T locs cells slots) (hx : p.tables.exec = Jvm.exec) (hd : decode c.code pc = .ok (.land, 1)) (k' : Ends wd p e below s Qb kc ks T (mkF m q Ls (.long (x &&& y) :: st))) (hq : pc + 1 = q := by rfl) : Ends wd p e below s Qb kc ks T (mkF m pc Ls (.long y :: .long x :: st)) := by
  subst hq; exact Ends.go (fun t => XS.land X.here hx rfl hd rfl) k'
theorem E.lor {x y : Int64} (X : Stand p l e R s m args below meth c T locs cells slots) (hx : p.tables.exec = Jvm.exec) (hd : decode c.code pc = .ok (.lor, 1)) (k' : Ends wd p e below s Qb kc ks T (mkF m q Ls (.long (x ||| y) :: st))) (hq : pc + 1 = q := by rfl) : Ends wd p e below s Qb kc ks T (mkF m pc Ls (.long y :: .long x :: st)) := by
  subst hq; exact Ends.go (fun t => XS.lor X.here hx rfl hd rfl) k'
theorem E.lxor {x y : Int64} (X : Stand p l e R s m args below meth c T locs cells slots) (hx : p.tables.exec = Jvm.exec) (hd : decode c.code pc = .ok (.lxor, 1)) (k' : Ends wd p e below s Qb kc ks T (mkF m q Ls (.long (x ^^^ y) :: st))) (hq : pc + 1 = q := by rfl) : Ends wd p e below s Qb kc ks T (mkF m pc Ls (.long y :: .long x :: st)) := by
  subst hq; exact Ends.go (fun t => XS.lxor X.here hx rfl hd rfl) k'
theorem E.ishl {x : Int32} {y : Int32} (X : Stand p l e R s m args below meth c T locs cells slots) (hx : p.tables.exec = Jvm.exec) (hd : decode c.code pc = .ok (.ishl, 1)) (k' : Ends wd p e below s Qb kc ks T (mkF m q Ls (.int (x <<< (y &&& 31)) :: st))) (hq : pc + 1 = q := by rfl) : Ends wd p e below s Qb kc ks T (mkF m pc Ls (.int y :: .int x :: st)) := by
  subst hq; exact Ends.go (fun t => XS.ishl X.here hx rfl hd rfl) k'
theorem E.ishr {x : Int32} {y : Int32} (X : Stand p l e R s m args below meth c T locs cells slots) (hx : p.tables.exec = Jvm.exec) (hd : decode c.code pc = .ok (.ishr, 1)) (k' : Ends wd p e below s Qb kc ks T (mkF m q Ls (.int (x >>> (y &&& 31)) :: st))) (hq : pc + 1 = q := by rfl) : Ends wd p e below s Qb kc ks T (mkF m pc Ls (.int y :: .int x :: st)) := by
  subst hq; exact Ends.go (fun t => XS.ishr X.here hx rfl hd rfl) k'
theorem E.iushr {x : Int32} {y : Int32} (X : Stand p l e R s m args below meth c T locs cells slots) (hx : p.tables.exec = Jvm.exec) (hd : decode c.code pc = .ok (.iushr, 1)) (k' : Ends wd p e below s Qb kc ks T (mkF m q Ls (.int ((x.toUInt32 >>> (y &&& 31).toUInt32).toInt32) :: st))) (hq : pc + 1 = q := by rfl) : Ends wd p e below s Qb kc ks T (mkF m pc Ls (.int y :: .int x :: st)) := by
  subst hq; exact Ends.go (fun t => XS.iushr X.here hx rfl hd rfl) k'
theorem E.lshl {x : Int64} {y : Int32} (X : Stand p l e R s m args below meth c T locs cells slots) (hx : p.tables.exec = Jvm.exec) (hd : decode c.code pc = .ok (.lshl, 1)) (k' : Ends wd p e below s Qb kc ks T (mkF m q Ls (.long (x <<< (y &&& 0x3f).toInt64) :: st))) (hq : pc + 1 = q := by rfl) : Ends wd p e below s Qb kc ks T (mkF m pc Ls (.int y :: .long x :: st)) := by
  subst hq; exact Ends.go (fun t => XS.lshl X.here hx rfl hd rfl) k'
theorem E.lshr {x : Int64} {y : Int32} (X : Stand p l e R s m args below meth c T locs cells slots) (hx : p.tables.exec = Jvm.exec) (hd : decode c.code pc = .ok (.lshr, 1)) (k' : Ends wd p e below s Qb kc ks T (mkF m q Ls (.long (x >>> (y &&& 0x3f).toInt64) :: st))) (hq : pc + 1 = q := by rfl) : Ends wd p e below s Qb kc ks T (mkF m pc Ls (.int y :: .long x :: st)) := by
  subst hq; exact Ends.go (fun t => XS.lshr X.here hx rfl hd rfl) k'
theorem E.lushr {x : Int64} {y : Int32} (X : Stand p l e R s m args below meth c T locs cells slots) (hx : p.tables.exec = Jvm.exec) (hd : decode c.code pc = .ok (.lushr, 1)) (k' : Ends wd p e below s Qb kc ks T (mkF m q Ls (.long ((x.toUInt64 >>> (y &&& 0x3f).toInt64.toUInt64).toInt64) :: st))) (hq : pc + 1 = q := by rfl) : Ends wd p e below s Qb kc ks T (mkF m pc Ls (.int y :: .long x :: st)) := by
  subst hq; exact Ends.go (fun t => XS.lushr X.here hx rfl hd rfl) k'
theorem E.ineg {x : Int32} (X : Stand p l e R s m args below meth c T locs cells slots) (hx : p.tables.exec = Jvm.exec) (hd : decode c.code pc = .ok (.ineg, 1)) (k' : Ends wd p e below s Qb kc ks T (mkF m q Ls (.int (-x) :: st))) (hq : pc + 1 = q := by rfl) : Ends wd p e below s Qb kc ks T (mkF m pc Ls (.int x :: st)) := by
  subst hq; exact Ends.go (fun t => XS.ineg X.here hx rfl hd rfl) k'
theorem E.lneg {x : Int64} (X : Stand p l e R s m args below meth c T locs cells slots) (hx : p.tables.exec = Jvm.exec) (hd : decode c.code pc = .ok (.lneg, 1)) (k' : Ends wd p e below s Qb kc ks T (mkF m q Ls (.long (-x) :: st))) (hq : pc + 1 = q := by rfl) : Ends wd p e below s Qb kc ks T (mkF m pc Ls (.long x :: st)) := by
  subst hq; exact Ends.go (fun t => XS.lneg X.here hx rfl hd rfl) k'
theorem E.i2l {x : Int32} (X : Stand p l e R s m args below meth c T locs cells slots) (hx : p.tables.exec = Jvm.exec) (hd : decode c.code pc = .ok (.i2l, 1)) (k' : Ends wd p e below s Qb kc ks T (mkF m q Ls (.long (x.toInt64) :: st))) (hq : pc + 1 = q := by rfl) : Ends wd p e below s Qb kc ks T (mkF m pc Ls (.int x :: st)) := by
  subst hq; exact Ends.go (fun t => XS.i2l X.here hx rfl hd rfl) k'
theorem E.l2i {x : Int64} (X : Stand p l e R s m args below meth c T locs cells slots) (hx : p.tables.exec = Jvm.exec) (hd : decode c.code pc = .ok (.l2i, 1)) (k' : Ends wd p e below s Qb kc ks T (mkF m q Ls (.int (x.toInt32) :: st))) (hq : pc + 1 = q := by rfl) : Ends wd p e below s Qb kc ks T (mkF m pc Ls (.long x :: st)) := by
  subst hq; exact Ends.go (fun t => XS.l2i X.here hx rfl hd rfl) k'
theorem E.i2b {x : Int32} (X : Stand p l e R s m args below meth c T locs cells slots) (hx : p.tables.exec = Jvm.exec) (hd : decode c.code pc = .ok (.i2b, 1)) (k' : Ends wd p e below s Qb kc ks T (mkF m q Ls (.int (x.toInt8.toInt32) :: st))) (hq : pc + 1 = q := by rfl) : Ends wd p e below s Qb kc ks T (mkF m pc Ls (.int x :: st)) := by
  subst hq; exact Ends.go (fun t => XS.i2b X.here hx rfl hd rfl) k'
theorem E.i2s {x : Int32} (X : Stand p l e R s m args below meth c T locs cells slots) (hx : p.tables.exec = Jvm.exec) (hd : decode c.code pc = .ok (.i2s, 1)) (k' : Ends wd p e below s Qb kc ks T (mkF m q Ls (.int (x.toInt16.toInt32) :: st))) (hq : pc + 1 = q := by rfl) : Ends wd p e below s Qb kc ks T (mkF m pc Ls (.int x :: st)) := by
  subst hq; exact Ends.go (fun t => XS.i2s X.here hx rfl hd rfl) k'
theorem E.i2c {x : Int32} (X : Stand p l e R s m args below meth c T locs cells slots) (hx : p.tables.exec = Jvm.exec) (hd : decode c.code pc = .ok (.i2c, 1)) (k' : Ends wd p e below s Qb kc ks T (mkF m q Ls (.int (x.toUInt32.toUInt16.toUInt32.toInt32) :: st))) (hq : pc + 1 = q := by rfl) : Ends wd p e below s Qb kc ks T (mkF m pc Ls (.int x :: st)) := by
  subst hq; exact Ends.go (fun t => XS.i2c X.here hx rfl hd rfl) k'
theorem E.i2d {x : Int32} (X : Stand p l e R s m args below meth c T locs cells slots) (hx : p.tables.exec = Jvm.exec) (hd : decode c.code pc = .ok (.i2d, 1)) (k' : Ends wd p e below s Qb kc ks T (mkF m q Ls (.double (FP.i2d x) :: st))) (hq : pc + 1 = q := by rfl) : Ends wd p e below s Qb kc ks T (mkF m pc Ls (.int x :: st)) := by
  subst hq; exact Ends.go (fun t => XS.i2dS X.here hx rfl hd rfl rfl) k'
theorem E.lcmp {x y : Int64} (X : Stand p l e R s m args below meth c T locs cells slots) (hx : p.tables.exec = Jvm.exec) (hd : decode c.code pc = .ok (.lcmp, 1)) (k' : Ends wd p e below s Qb kc ks T (mkF m q Ls (.int (lcmpW x y) :: st))) (hq : pc + 1 = q := by rfl) : Ends wd p e below s Qb kc ks T (mkF m pc Ls (.long y :: .long x :: st)) := by
  subst hq; exact Ends.go (fun t => XS.lcmp X.here hx rfl hd rfl) k'
theorem E.dcmp {x y : UInt64} {o : CmpOp} (X : Stand p l e R s m args below meth c T locs cells slots) (hx : p.tables.exec = Jvm.exec) (hd : decode c.code pc = .ok (.dcmp o, 1)) (k' : Ends wd p e below s Qb kc ks T (mkF m q Ls (.int (cmpValue (FP.dcmp x y) o) :: st))) (hq : pc + 1 = q := by rfl) : Ends wd p e below s Qb kc ks T (mkF m pc Ls (.double y :: .double x :: st)) := by
  subst hq; exact Ends.go (fun t => XS.dcmpS X.here hx rfl hd rfl rfl) k'
theorem E.idiv {x y : Int32} (X : Stand p l e R s m args below meth c T locs cells slots) (hx : p.tables.exec = Jvm.exec) (hd : decode c.code pc = .ok (.idiv, 1)) (hy : ¬ y = 0) (k' : Ends wd p e below s Qb kc ks T (mkF m q Ls (.int (x / y) :: st))) (hq : pc + 1 = q := by rfl) : Ends wd p e below s Qb kc ks T (mkF m pc Ls (.int y :: .int x :: st)) := by
  subst hq; exact Ends.go (fun t => XS.idiv X.here hx rfl hd rfl hy) k'
theorem E.irem {x y : Int32} (X : Stand p l e R s m args below meth c T locs cells slots) (hx : p.tables.exec = Jvm.exec) (hd : decode c.code pc = .ok (.irem, 1)) (hy : ¬ y = 0) (k' : Ends wd p e below s Qb kc ks T (mkF m q Ls (.int (x % y) :: st))) (hq : pc + 1 = q := by rfl) : Ends wd p e below s Qb kc ks T (mkF m pc Ls (.int y :: .int x :: st)) := by
  subst hq; exact Ends.go (fun t => iremM X hx rfl hd rfl hy) k'
theorem E.ldiv {x y : Int64} (X : Stand p l e R s m args below meth c T locs cells slots) (hx : p.tables.exec = Jvm.exec) (hd : decode c.code pc = .ok (.ldiv, 1)) (hy : ¬ y = 0) (k' : Ends wd p e below s Qb kc ks T (mkF m q Ls (.long (x / y) :: st))) (hq : pc + 1 = q := by rfl) : Ends wd p e below s Qb kc ks T (mkF m pc Ls (.long y :: .long x :: st)) := by
  subst hq; exact Ends.go (fun t => XS.ldiv X.here hx rfl hd rfl hy) k'
theorem E.lrem {x y : Int64} (X : Stand p l e R s m args below meth c T locs cells slots) (hx : p.tables.exec = Jvm.exec) (hd : decode c.code pc = .ok (.lrem, 1)) (hy : ¬ y = 0) (k' : Ends wd p e below s Qb kc ks T (mkF m q Ls (.long (x - (x / y) * y) :: st))) (hq : pc + 1 = q := by rfl) : Ends wd p e below s Qb kc ks T (mkF m pc Ls (.long y :: .long x :: st)) := by
  subst hq; exact Ends.go (fun t => XS.lrem X.here hx rfl hd rfl hy) k'
theorem E.iinc {x v : Int32} {cst : Int} (X : Stand p l e R s m args below meth c T locs cells slots) (hx : p.tables.exec = Jvm.exec) (hd : decode c.code pc = .ok (.iinc k cst, 3)) (hl : Ls[k]? = some (.val (.int x))) (hv : x + Int32.ofInt cst = v) (hl' : storeLocals Ls k (.int v) = some l') (k' : Ends wd p e below s Qb kc ks T (mkF m q l' st)) (hq : pc + 3 = q := by rfl) : Ends wd p e below s Qb kc ks T (mkF m pc Ls st) := by
  subst hq; subst hv; exact Ends.go (fun t => XS.iinc X.here hx rfl hd hl hl') k'
theorem E.dup {v : Value} (X : Stand p l e R s m args below meth c T locs cells slots) (hx : p.tables.exec = Jvm.exec) (hd : decode c.code pc = .ok (.dup, 1)) (hc : v.category = 1) (k' : Ends wd p e below s Qb kc ks T (mkF m q Ls (v :: v :: st))) (hq : pc + 1 = q := by rfl) : Ends wd p e below s Qb kc ks T (mkF m pc Ls (v :: st)) := by
  subst hq; exact Ends.go (fun t => XS.dup X.here hx rfl hd rfl hc) k'
theorem E.pop {v : Value} (X : Stand p l e R s m args below meth c T locs cells slots) (hx : p.tables.exec = Jvm.exec) (hd : decode c.code pc = .ok (.pop, 1)) (hc : v.category = 1) (k' : Ends wd p e below s Qb kc ks T (mkF m q Ls st)) (hq : pc + 1 = q := by rfl) : Ends wd p e below s Qb kc ks T (mkF m pc Ls (v :: st)) := by
  subst hq; exact Ends.go (fun t => XS.pop X.here hx rfl hd rfl hc) k'
theorem E.dupX1 {v w : Value} (X : Stand p l e R s m args below meth c T locs cells slots) (hx : p.tables.exec = Jvm.exec) (hd : decode c.code pc = .ok (.dup_x1, 1)) (hc : v.category = 1) (hc2 : w.category = 1) (k' : Ends wd p e below s Qb kc ks T (mkF m q Ls (v :: w :: v :: st))) (hq : pc + 1 = q := by rfl) : Ends wd p e below s Qb kc ks T (mkF m pc Ls (v :: w :: st)) := by
  subst hq; exact Ends.go (fun t => XS.dupX1 X.here hx rfl hd rfl hc hc2) k'
theorem E.icmpY {x y : Int32} {cd : ClassFile.Cond} {o : Int} (X : Stand p l e R s m args below meth c T locs cells slots) (hx : p.tables.exec = Jvm.exec) (hd : decode c.code pc = .ok (.if_icmp cd o, 3)) (hc : if_icmp.holds cd x y = true) (k' : Ends wd p e below s Qb kc ks T (mkF m q Ls st)) (ho : 0 ≤ (pc : Int) + o := by decide) (hq : ((pc : Int) + o).toNat = q := by decide) : Ends wd p e below s Qb kc ks T (mkF m pc Ls (.int y :: .int x :: st)) :=
  Ends.go (fun t => XS.icmpYes X.here hx rfl rfl hd rfl hc ho hq) k'
theorem E.icmpN {x y : Int32} {cd : ClassFile.Cond} {o : Int} (X : Stand p l e R s m args below meth c T locs cells slots) (hx : p.tables.exec = Jvm.exec) (hd : decode c.code pc = .ok (.if_icmp cd o, 3)) (hc : if_icmp.holds cd x y = false) (k' : Ends wd p e below s Qb kc ks T (mkF m q Ls st)) (hq : pc + 3 = q := by rfl) : Ends wd p e below s Qb kc ks T (mkF m pc Ls (.int y :: .int x :: st)) := by
  subst hq; exact Ends.go (fun t => XS.icmpNo X.here hx rfl hd rfl hc) k'
theorem E.ifY {x : Int32} {cd : ClassFile.Cond} {o : Int} (X : Stand p l e R s m args below meth c T locs cells slots) (hx : p.tables.exec = Jvm.exec) (hd : decode c.code pc = .ok (.ifCond cd o, 3)) (hc : ifCond.holds cd x = true) (k' : Ends wd p e below s Qb kc ks T (mkF m q Ls st)) (ho : 0 ≤ (pc : Int) + o := by decide) (hq : ((pc : Int) + o).toNat = q := by decide) : Ends wd p e below s Qb kc ks T (mkF m pc Ls (.int x :: st)) :=
  Ends.go (fun t => XS.ifYes X.here hx rfl rfl hd rfl hc ho hq) k'
theorem E.ifN {x : Int32} {cd : ClassFile.Cond} {o : Int} (X : Stand p l e R s m args below meth c T locs cells slots) (hx : p.tables.exec = Jvm.exec) (hd : decode c.code pc = .ok (.ifCond cd o, 3)) (hc : ifCond.holds cd x = false) (k' : Ends wd p e below s Qb kc ks T (mkF m q Ls st)) (hq : pc + 3 = q := by rfl) : Ends wd p e below s Qb kc ks T (mkF m pc Ls (.int x :: st)) := by
  subst hq; exact Ends.go (fun t => XS.ifNo X.here hx rfl hd rfl hc) k'
theorem E.goto {o : Int} (X : Stand p l e R s m args below meth c T locs cells slots) (hx : p.tables.exec = Jvm.exec) (hd : decode c.code pc = .ok (.goto o, 3)) (k' : Ends wd p e below s Qb kc ks T (mkF m q Ls st)) (ho : 0 ≤ (pc : Int) + o := by decide) (hq : ((pc : Int) + o).toNat = q := by decide) : Ends wd p e below s Qb kc ks T (mkF m pc Ls st) :=
  Ends.go (fun t => XS.goto X.here hx rfl rfl hd ho hq) k'
theorem E.nullY {o : Int} (X : Stand p l e R s m args below meth c T locs cells slots) (hx : p.tables.exec = Jvm.exec) (hd : decode c.code pc = .ok (.ifnull o, 3)) (k' : Ends wd p e below s Qb kc ks T (mkF m q Ls st)) (ho : 0 ≤ (pc : Int) + o := by decide) (hq : ((pc : Int) + o).toNat = q := by decide) : Ends wd p e below s Qb kc ks T (mkF m pc Ls (.null :: st)) :=
  Ends.go (fun t => XS.ifnullYes X.here hx rfl rfl hd rfl ho hq) k'
theorem E.nullN {o : Int} {b : Addr} (X : Stand p l e R s m args below meth c T locs cells slots) (hx : p.tables.exec = Jvm.exec) (hd : decode c.code pc = .ok (.ifnull o, 3)) (k' : Ends wd p e below s Qb kc ks T (mkF m q Ls st)) (hq : pc + 3 = q := by rfl) : Ends wd p e below s Qb kc ks T (mkF m pc Ls (.ref b :: st)) := by
  subst hq; exact Ends.go (fun t => XS.ifnullNo X.here hx rfl hd rfl) k'
theorem E.nonnullY {o : Int} {b : Addr} (X : Stand p l e R s m args below meth c T locs cells slots) (hx : p.tables.exec = Jvm.exec) (hd : decode c.code pc = .ok (.ifnonnull o, 3)) (k' : Ends wd p e below s Qb kc ks T (mkF m q Ls st)) (ho : 0 ≤ (pc : Int) + o := by decide) (hq : ((pc : Int) + o).toNat = q := by decide) : Ends wd p e below s Qb kc ks T (mkF m pc Ls (.ref b :: st)) :=
  Ends.go (fun t => XS.ifnonnullYes X.here hx rfl rfl hd rfl ho hq) k'
theorem E.nonnullN {o : Int} (X : Stand p l e R s m args below meth c T locs cells slots) (hx : p.tables.exec = Jvm.exec) (hd : decode c.code pc = .ok (.ifnonnull o, 3)) (k' : Ends wd p e below s Qb kc ks T (mkF m q Ls st)) (hq : pc + 3 = q := by rfl) : Ends wd p e below s Qb kc ks T (mkF m pc Ls (.null :: st)) := by
  subst hq; exact Ends.go (fun t => XS.ifnonnullNo X.here hx rfl hd rfl) k'
theorem E.ldc {v : Int32} {own : String} {index : Nat} (X : Stand p l e R s m args below meth c T locs cells slots) (hx : p.tables.exec = Jvm.exec) (hZ : Z.Warmed39 s.vm) (hown : s.vm.findClass own = some m.cls) (hc : (Jvm.Cond.constant own index v).before a0 Z = true) (hd : decode c.code pc = .ok (.ldc index, 2)) (k' : Ends wd p e below s Qb kc ks T (mkF m q Ls (.int v :: st))) (hq : pc + 2 = q := by rfl) : Ends wd p e below s Qb kc ks T (mkF m pc Ls st) := by
  subst hq; exact Ends.go (fun t => X.ldcI hx hown (mvT hZ hc) rfl hd) k'
theorem E.ldcW {v : Int32} {own : String} {index : Nat} (X : Stand p l e R s m args below meth c T locs cells slots) (hx : p.tables.exec = Jvm.exec) (hZ : Z.Warmed39 s.vm) (hown : s.vm.findClass own = some m.cls) (hc : (Jvm.Cond.constant own index v).before a0 Z = true) (hd : decode c.code pc = .ok (.ldc_w index, 3)) (k' : Ends wd p e below s Qb kc ks T (mkF m q Ls (.int v :: st))) (hq : pc + 3 = q := by rfl) : Ends wd p e below s Qb kc ks T (mkF m pc Ls st) := by
  subst hq; exact Ends.go (fun t => X.ldcWI hx hown (mvT hZ hc) rfl hd) k'
theorem E.ldc2 {v : Int64} {own : String} {index : Nat} (X : Stand p l e R s m args below meth c T locs cells slots) (hx : p.tables.exec = Jvm.exec) (hZ : Z.Warmed39 s.vm) (hown : s.vm.findClass own = some m.cls) (hc : (Jvm.Cond.constantLong own index v).before a0 Z = true) (hd : decode c.code pc = .ok (.ldc2_w index, 3)) (k' : Ends wd p e below s Qb kc ks T (mkF m q Ls (.long v :: st))) (hq : pc + 3 = q := by rfl) : Ends wd p e below s Qb kc ks T (mkF m pc Ls st) := by
  subst hq; exact Ends.go (fun t => X.ldc2J hx hown (mvT hZ hc) rfl hd) k'
end OwnSteps
/-! own text: arrays by their whole contents; what a body may have done to the heap -/
section OwnHeap
variable {wd : Bool} {p : Program} {l : Launch} {e : Env} {R : Room} {s : State} {m : MethodId} {args : Array Value} {below : List Frame} {meth : Method} {c : Code} {T : State} {locs : List Loc} {cells slots : Nat} {Z : State} {a0 : Array Value} {h h' h0 : Heap} {Qb : Option Value → Heap → List Loc → Prop} {kc ks : Nat} {a b : Addr} {ty : FieldType} {vs : List Value} {v : Value} {sl i : Nat} {ws ws' : List Addr} {L L' : List Loc} {pc : Nat} {Ls : Array Slot} {st : List Value} {j : Int32}
def Ary (Z : State) (h : Heap) (a : Addr) (ty : FieldType) (vs : List Value) : Prop := ∃ c : Cell, Arr Z h a c ty ∧ c.slots = vs.toArray ∧ vs.length < 2 ^ 31
theorem Ary.lt (A : Ary Z h a ty vs) : a < h.size := by obtain ⟨c, A, -⟩ := A; exact A.lt
theorem Ary.ext (E : Ext h h') (A : Ary Z h a ty vs) : Ary Z h' a ty vs := by obtain ⟨c, A, r⟩ := A; exact ⟨c, A.ext E, r⟩
theorem Ary.other (W : Wr h h' b sl v) (A : Ary Z h a ty vs) (q : a ≠ b) : Ary Z h' a ty vs := by obtain ⟨c, A, r⟩ := A; exact ⟨c, Arr.other W A q, r⟩
theorem Ary.keep (A : Ary Z h a ty vs) (K : Keep h h' ws) (q : a ∉ ws) : Ary Z h' a ty vs := by obtain ⟨c, A, r⟩ := A; exact ⟨c, ⟨K.2.1 a c A.1 q, A.2⟩, r⟩
theorem Ary.set (A : Ary Z h a ty vs) (W : Wr h h' a i v) : Ary Z h' a ty (vs.set i v) := by
  obtain ⟨c, A, e, l⟩ := A
  refine ⟨c.setSlot i v, Arr.same W A, ?_, by rw [List.length_set]; exact l⟩
  show c.slots.setIfInBounds i v = _
  rw [e]; simp
theorem own_ofNat {i : Nat} (h : i < 2 ^ 31) : (Int32.ofNat i).toInt = (i : Int) := by
  rw [Int32.toInt_ofNat_of_lt h]
theorem own_clamp {i : Nat} (h : i < 2 ^ 31) : (Int32.ofNat i).toNatClampNeg = i ∧ ¬ (Int32.ofNat i) < 0 := by
  have q := own_ofNat h
  refine ⟨?_, ?_⟩
  · show (Int32.ofNat i).toInt.toNat = i
    omega
  · rw [Int32.lt_iff_toInt_lt]
    have : (0 : Int32).toInt = 0 := by decide
    omega
theorem Ary.new {k : ClassId} {n : Int32} {N : Nat} (A : Arr Z h a (newA k ty n) ty) (hn : n = Int32.ofNat N) (hN : N < 2 ^ 31) : Ary Z h a ty (List.replicate N (defaultValue ty)) := by
  refine ⟨_, A, ?_, by rw [List.length_replicate]; exact hN⟩
  subst hn
  show Array.replicate (Int32.ofNat N).toNatClampNeg (defaultValue ty) = _
  rw [(own_clamp hN).1]; simp
theorem own_inb {c : Cell} (e : c.slots = vs.toArray) (l : vs.length < 2 ^ 31) (hj : j = Int32.ofNat i) (hi : i < vs.length) : ¬ (j < 0 ∨ c.slots.size ≤ j.toNatClampNeg) := by
  subst hj
  have q := own_clamp (i := i) (by omega)
  rw [q.1, e]
  rintro (r | r)
  · exact q.2 r
  · simp at r; omega
theorem own_at {c : Cell} (e : c.slots = vs.toArray) (l : vs.length < 2 ^ 31) (hj : j = Int32.ofNat i) (hv : vs[i]? = some v) : ¬ (j < 0 ∨ c.slots.size ≤ j.toNatClampNeg) ∧ c.slots[j.toNatClampNeg]? = some v := by
  have hi : i < vs.length := (List.getElem?_eq_some_iff.mp hv).1
  refine ⟨own_inb e l hj hi, ?_⟩
  subst hj
  rw [(own_clamp (i := i) (by omega)).1, e]
  simpa using hv
/-- what the walk has done so far: of the elder cells only those in ws are written -/
def Ok (h0 h : Heap) (ws : List Addr) (L : List Loc) : Prop := Keep h0 h ws ∧ ∀ y ∈ L, y.base ∈ ws ∨ h0.size ≤ y.base
theorem Ok.refl (h : Heap) (ws : List Addr) : Ok h h ws [] := ⟨Keep.refl h ws, fun _ q => nomatch q⟩
theorem Ok.ext (O : Ok h0 h ws L) (E : Ext h h') : Ok h0 h' ws L := ⟨O.1.ext E, O.2⟩
theorem Ok.wr (O : Ok h0 h ws L) (W : Wr h h' a sl v) (q : a ∈ ws ∨ h0.size ≤ a) : Ok h0 h' ws (L ++ [⟨a, sl⟩]) :=
  ⟨O.1.wr W q, fun y hy => (List.mem_append.mp hy).elim (O.2 y) fun r => by cases List.mem_singleton.mp r; exact q⟩
theorem Ok.call (O : Ok h0 h ws L) (O' : Ok h h' ws' L') (q : ∀ x ∈ ws', x ∈ ws ∨ h0.size ≤ x) : Ok h0 h' ws (L ++ L') :=
  ⟨O.1.trans O'.1 q, fun y hy => (List.mem_append.mp hy).elim (O.2 y) fun r => (O'.2 y r).elim (q _) fun u => Or.inr (Nat.le_trans O.1.1 u)⟩
theorem Ok.fr (O : Ok h0 h [] L) : Fr h0.size L := fun y hy => (O.2 y hy).elim (fun q => nomatch q) id
theorem Ok.le (O : Ok h0 h ws L) : h0.size ≤ h.size := O.1.1
theorem Ends.alen (X : Stand p l e R s m args below meth c T locs cells slots) (hx : p.tables.exec = Jvm.exec) (hZ : Z.Warmed39 s.vm) (eT : T.heap = h) (A : Ary Z h a ty vs) (hd : decode c.code pc = .ok (.arraylength, 1)) {n : Int32} (hn : Int32.ofNat vs.length = n)
    (k : Ends wd p e below s Qb kc ks T (mkF m (pc + 1) Ls (.int n :: st))) : Ends wd p e below s Qb kc ks T (mkF m pc Ls (.ref a :: st)) := by
  obtain ⟨cl, A, q, -⟩ := A
  refine Ends.go (fun t => X.arraylength hx (cell := cl) (by rw [eT]; exact A.1) (State.isArrayOf_alike hZ.alike A.2.1) (g := mkF m pc Ls (.ref a :: st)) rfl (rest := st) rfl hd t) ?_
  have e1 : cl.slots.size.toInt32 = n := by rw [q, ← hn]; simp
  rw [e1]; exact k
theorem Ends.ild (X : Stand p l e R s m args below meth c T locs cells slots) (hx : p.tables.exec = Jvm.exec) (hZ : Z.Warmed39 s.vm) (eT : T.heap = h) (A : Ary Z h a .int vs) (hj : j = Int32.ofNat i) (hv : vs[i]? = some v) (hd : decode c.code pc = .ok (.iaload, 1))
    (k : Ends wd p e below s Qb kc ks T (mkF m (pc + 1) Ls (v :: st))) : Ends wd p e below s Qb kc ks T (mkF m pc Ls (.int j :: .ref a :: st)) := by
  obtain ⟨cl, A, q, q2⟩ := A
  obtain ⟨r1, r2⟩ := own_at q q2 hj hv
  exact Ends.go (fun t => X.iaload hx (by rw [eT]; exact A.1) (State.isArrayOf_alike hZ.alike A.2.1) A.2.2 r1 r2 (g := mkF m pc Ls (.int j :: .ref a :: st)) rfl rfl hd t) k
theorem Ends.cld (X : Stand p l e R s m args below meth c T locs cells slots) (hx : p.tables.exec = Jvm.exec) (hZ : Z.Warmed39 s.vm) (eT : T.heap = h) (A : Ary Z h a .char vs) (hj : j = Int32.ofNat i) (hv : vs[i]? = some v) (hd : decode c.code pc = .ok (.caload, 1))
    (k : Ends wd p e below s Qb kc ks T (mkF m (pc + 1) Ls (v :: st))) : Ends wd p e below s Qb kc ks T (mkF m pc Ls (.int j :: .ref a :: st)) := by
  obtain ⟨cl, A, q, q2⟩ := A
  obtain ⟨r1, r2⟩ := own_at q q2 hj hv
  exact Ends.go (fun t => X.caload hx (by rw [eT]; exact A.1) (State.isArrayOf_alike hZ.alike A.2.1) A.2.2 r1 r2 (g := mkF m pc Ls (.int j :: .ref a :: st)) rfl rfl hd t) k
theorem Ends.bld (X : Stand p l e R s m args below meth c T locs cells slots) (hx : p.tables.exec = Jvm.exec) (hZ : Z.Warmed39 s.vm) (eT : T.heap = h) (A : Ary Z h a .byte vs) (hj : j = Int32.ofNat i) (hv : vs[i]? = some v) (hd : decode c.code pc = .ok (.baload, 1))
    (k : Ends wd p e below s Qb kc ks T (mkF m (pc + 1) Ls (v :: st))) : Ends wd p e below s Qb kc ks T (mkF m pc Ls (.int j :: .ref a :: st)) := by
  obtain ⟨cl, A, q, q2⟩ := A
  obtain ⟨r1, r2⟩ := own_at q q2 hj hv
  exact Ends.go (fun t => X.baloadBytes hx (by rw [eT]; exact A.1) (State.isArrayOf_alike hZ.alike A.2.1) A.2.2 r1 r2 (g := mkF m pc Ls (.int j :: .ref a :: st)) rfl rfl hd t) k
theorem Ends.dld (X : Stand p l e R s m args below meth c T locs cells slots) (hx : p.tables.exec = Jvm.exec) (hZ : Z.Warmed39 s.vm) (eT : T.heap = h) (A : Ary Z h a .double vs) (hj : j = Int32.ofNat i) (hv : vs[i]? = some v) (hd : decode c.code pc = .ok (.daload, 1))
    (k : Ends wd p e below s Qb kc ks T (mkF m (pc + 1) Ls (v :: st))) : Ends wd p e below s Qb kc ks T (mkF m pc Ls (.int j :: .ref a :: st)) := by
  obtain ⟨cl, A, q, q2⟩ := A
  obtain ⟨r1, r2⟩ := own_at q q2 hj hv
  exact Ends.go (fun t => X.daload hx (by rw [eT]; exact A.1) (State.isArrayOf_alike hZ.alike A.2.1) A.2.2 r1 r2 (g := mkF m pc Ls (.int j :: .ref a :: st)) rfl rfl hd t) k
theorem Ends.ald (X : Stand p l e R s m args below meth c T locs cells slots) (hx : p.tables.exec = Jvm.exec) (hZ : Z.Warmed39 s.vm) (eT : T.heap = h) (A : Ary Z h a ty vs) (hty : ty.isReference = true) (hj : j = Int32.ofNat i) (hv : vs[i]? = some v) (hd : decode c.code pc = .ok (.aaload, 1))
    (k : Ends wd p e below s Qb kc ks T (mkF m (pc + 1) Ls (v :: st))) : Ends wd p e below s Qb kc ks T (mkF m pc Ls (.int j :: .ref a :: st)) := by
  obtain ⟨cl, A, q, q2⟩ := A
  obtain ⟨r1, r2⟩ := own_at q q2 hj hv
  exact Ends.go (fun t => X.aaload hx (by rw [eT]; exact A.1) (State.isArrayOf_alike hZ.alike A.2.1) hty A.2.2 r1 r2 (g := mkF m pc Ls (.int j :: .ref a :: st)) rfl rfl hd t) k
theorem Ends.ist (X : Stand p l e R s m args below meth c T locs cells slots) (hx : p.tables.exec = Jvm.exec) (hZ : Z.Warmed39 s.vm) (eT : T.heap = h) (A : Ary Z h a .int vs) {x : Int32} (hj : j = Int32.ofNat i) (hi : i < vs.length) (hd : decode c.code pc = .ok (.iastore, 1))
    (k : ∀ T' h', Stand p l e R s m args below meth c T' (locs ++ [⟨a, i⟩]) cells slots → T'.heap = h' → Wr h h' a i (.int x) → Ary Z h' a .int (vs.set i (.int x)) → Ends wd p e below s Qb kc ks T' (mkF m (pc + 1) Ls st)) : Ends wd p e below s Qb kc ks T (mkF m pc Ls (.int x :: .int j :: .ref a :: st)) := by
  obtain ⟨cl, A', q, q2⟩ := id A
  obtain ⟨T', h', X', e', W, st'⟩ := stI X hx hZ eT A' (j := j) (own_inb q q2 hj hi) (g := mkF m pc Ls (.int x :: .int j :: .ref a :: st)) rfl rfl hd
  have hc : j.toNatClampNeg = i := by rw [hj]; exact (own_clamp (by omega)).1
  rw [hc] at X' W
  exact Ends.go st' (k T' h' X' e' W (A.set W))
theorem Ends.cst (X : Stand p l e R s m args below meth c T locs cells slots) (hx : p.tables.exec = Jvm.exec) (hZ : Z.Warmed39 s.vm) (eT : T.heap = h) (A : Ary Z h a .char vs) {x x' : Int32} (hxx : nar .char x = x') (hj : j = Int32.ofNat i) (hi : i < vs.length) (hd : decode c.code pc = .ok (.castore, 1))
    (k : ∀ T' h', Stand p l e R s m args below meth c T' (locs ++ [⟨a, i⟩]) cells slots → T'.heap = h' → Wr h h' a i (.int x') → Ary Z h' a .char (vs.set i (.int x')) → Ends wd p e below s Qb kc ks T' (mkF m (pc + 1) Ls st)) : Ends wd p e below s Qb kc ks T (mkF m pc Ls (.int x :: .int j :: .ref a :: st)) := by
  obtain ⟨cl, A', q, q2⟩ := id A
  obtain ⟨T', h', X', e', W, st'⟩ := stC X hx hZ eT A' (j := j) (own_inb q q2 hj hi) (g := mkF m pc Ls (.int x :: .int j :: .ref a :: st)) rfl rfl hd
  have hc : j.toNatClampNeg = i := by rw [hj]; exact (own_clamp (by omega)).1
  rw [hc] at X' W
  rw [hxx] at W
  exact Ends.go st' (k T' h' X' e' W (A.set W))
theorem Ends.bst (X : Stand p l e R s m args below meth c T locs cells slots) (hx : p.tables.exec = Jvm.exec) (hZ : Z.Warmed39 s.vm) (eT : T.heap = h) (A : Ary Z h a .byte vs) {x x' : Int32} (hxx : nar .byte x = x') (hj : j = Int32.ofNat i) (hi : i < vs.length) (hd : decode c.code pc = .ok (.bastore, 1))
    (k : ∀ T' h', Stand p l e R s m args below meth c T' (locs ++ [⟨a, i⟩]) cells slots → T'.heap = h' → Wr h h' a i (.int x') → Ary Z h' a .byte (vs.set i (.int x')) → Ends wd p e below s Qb kc ks T' (mkF m (pc + 1) Ls st)) : Ends wd p e below s Qb kc ks T (mkF m pc Ls (.int x :: .int j :: .ref a :: st)) := by
  obtain ⟨cl, A', q, q2⟩ := id A
  obtain ⟨T', h', X', e', W, st'⟩ := stB X hx hZ eT A' (j := j) (own_inb q q2 hj hi) (g := mkF m pc Ls (.int x :: .int j :: .ref a :: st)) rfl rfl hd
  have hc : j.toNatClampNeg = i := by rw [hj]; exact (own_clamp (by omega)).1
  rw [hc] at X' W
  rw [hxx] at W
  exact Ends.go st' (k T' h' X' e' W (A.set W))
theorem Ends.dst (X : Stand p l e R s m args below meth c T locs cells slots) (hx : p.tables.exec = Jvm.exec) (hZ : Z.Warmed39 s.vm) (eT : T.heap = h) (A : Ary Z h a .double vs) {x : UInt64} (hj : j = Int32.ofNat i) (hi : i < vs.length) (hd : decode c.code pc = .ok (.dastore, 1))
    (k : ∀ T' h', Stand p l e R s m args below meth c T' (locs ++ [⟨a, i⟩]) cells slots → T'.heap = h' → Wr h h' a i (.double x) → Ary Z h' a .double (vs.set i (.double x)) → Ends wd p e below s Qb kc ks T' (mkF m (pc + 1) Ls st)) : Ends wd p e below s Qb kc ks T (mkF m pc Ls (.double x :: .int j :: .ref a :: st)) := by
  obtain ⟨cl, A', q, q2⟩ := id A
  obtain ⟨T', h', X', e', W, st'⟩ := stD X hx hZ eT A' (j := j) (own_inb q q2 hj hi) (g := mkF m pc Ls (.double x :: .int j :: .ref a :: st)) rfl rfl hd
  have hc : j.toNatClampNeg = i := by rw [hj]; exact (own_clamp (by omega)).1
  rw [hc] at X' W
  exact Ends.go st' (k T' h' X' e' W (A.set W))
theorem Ends.newA (X : Stand p l e R s m args below meth c T locs cells slots) (hx : p.tables.exec = Jvm.exec) (hZ : Z.Warmed39 s.vm) {aty : ArrayType} (w : (Jvm.Cond.arrayClass (newarray.typeOf aty)).before a0 Z = true) (eT : T.heap = h) (hd : decode c.code pc = .ok (.newarray aty, 2)) {n : Int32} {N : Nat} (hn : n = Int32.ofNat N) (hN : N * 8 ≤ 536870912) (hc : cells + 1 ≤ R.cells) (hl : slots + N ≤ R.slots)
    (k : ∀ T' h' b, b = h.size → Stand p l e R s m args below meth c T' locs (cells + 1) (slots + N) → T'.heap = h' → Ext h h' → Ary Z h' b (newarray.typeOf aty) (List.replicate N (defaultValue (newarray.typeOf aty))) → Ends wd p e below s Qb kc ks T' (mkF m (pc + 2) Ls (.ref b :: st))) : Ends wd p e below s Qb kc ks T (mkF m pc Ls (.int n :: st)) := by
  have q := own_clamp (i := N) (by omega)
  obtain ⟨T', h', cA, X', e', E, A, st'⟩ := newP X hx hZ w eT (g := mkF m pc Ls (.int n :: st)) rfl hd rfl (by rw [hn]; exact q.2) (cap := N) (by rw [hn, q.1]; exact Nat.le_refl _) hN hc hl
  exact Ends.go st' (k T' h' _ rfl X' e' E (Ary.new A hn (by omega)))
theorem Ends.newC (X : Stand p l e R s m args below meth c T locs cells slots) (hx : p.tables.exec = Jvm.exec) (hZ : Z.Warmed39 s.vm) {own C : String} {index n : Nat} (hown : s.vm.findClass own = some m.cls) (w : (Jvm.Cond.classLink own index C).before a0 Z = true) (wi : (Jvm.Cond.instantiable C n).before a0 Z = true) (wz : (Jvm.Cond.initialized C).before a0 Z = true) (eT : T.heap = h) (hd : decode c.code pc = .ok (.new index, 3)) (hc : cells + 1 ≤ R.cells) (hl : slots + n ≤ R.slots)
    (k : ∀ T' h' b, b = h.size → Stand p l e R s m args below meth c T' locs (cells + 1) (slots + n) → T'.heap = h' → Ext h h' → Exa Z h' b C → (∀ {O nm d : String} {ty : FieldType}, Laid Z a0 C O nm d → parseFieldDescriptor d = some ty → Fld Z h' b O nm d (defaultValue ty)) → Ends wd p e below s Qb kc ks T' (mkF m (pc + 3) Ls (.ref b :: st))) : Ends wd p e below s Qb kc ks T (mkF m pc Ls st) := by
  obtain ⟨T', h', X', e', E, A, D, -, st'⟩ := newO X hx hZ hown w wi wz eT (g := mkF m pc Ls st) rfl hd hc hl
  exact Ends.go st' (k T' h' _ rfl X' e' E A D)
end OwnHeap
section OwnHeap2
variable {wd : Bool} {p : Program} {l : Launch} {e : Env} {R : Room} {s : State} {m : MethodId} {args : Array Value} {below : List Frame} {meth : Method} {c : Code} {T : State} {locs : List Loc} {cells slots : Nat} {Z : State} {a0 : Array Value} {h h' h0 : Heap} {Qb : Option Value → Heap → List Loc → Prop} {kc ks : Nat} {a b : Addr} {ty : FieldType} {v v' old : Value} {pc index kk : Nat} {Ls : Array Slot} {st : List Value} {own R0 O n d host C : String}
theorem Ends.getF (X : Stand p l e R s m args below meth c T locs cells slots) (hx : p.tables.exec = Jvm.exec) (hZ : Z.Warmed39 s.vm) (hown : s.vm.findClass own = some m.cls) (w : (Jvm.Cond.fieldLink own index R0 n d).before a0 Z = true ∨ (Jvm.Cond.fieldLinkNest own index R0 n d host).before a0 Z = true) (via : Via Z R0 O n d) (eT : T.heap = h) (F : Fld Z h a O n d v) (hd : decode c.code pc = .ok (.getfield index, 3))
    (k : ∀ T', Stand p l e R s m args below meth c T' locs cells slots → T'.heap = h → Ends wd p e below s Qb kc ks T' (mkF m (pc + 3) Ls (v :: st))) : Ends wd p e below s Qb kc ks T (mkF m pc Ls (.ref a :: st)) := by
  obtain ⟨T', X', e', st'⟩ := Jvm.RoadKit.getF X hx hZ hown w via eT F (g := mkF m pc Ls (.ref a :: st)) rfl rfl hd
  exact Ends.go st' (k T' X' e')
theorem Ends.putF (X : Stand p l e R s m args below meth c T locs cells slots) (hx : p.tables.exec = Jvm.exec) (hZ : Z.Warmed39 s.vm) (hown : s.vm.findClass own = some m.cls) (w : (Jvm.Cond.fieldLink own index R0 n d).before a0 Z = true ∨ (Jvm.Cond.fieldLinkNest own index R0 n d host).before a0 Z = true) (via : Via Z R0 O n d) (eT : T.heap = h) (F : Fld Z h a O n d old) (E : Exa Z h a C) (L : (Jvm.Cond.lays C O n d).before a0 Z = true ∨ ((Jvm.Cond.laysFinal C O n d).before a0 Z = true ∧ own = O ∧ meth.name = "<init>")) (wi : (Jvm.Cond.instantiable C kk).before a0 Z = true) (hty : parseFieldDescriptor d = some ty) (hn : narrow ty v = v) (hf : fits ty v = true) (hd : decode c.code pc = .ok (.putfield index, 3))
    (k : ∀ T' h', Stand p l e R s m args below meth c T' (locs ++ [⟨a, Jvm.RoadKit.slotOf Z O n d⟩]) cells slots → T'.heap = h' → Wr h h' a (Jvm.RoadKit.slotOf Z O n d) v → Fld Z h' a O n d v → Ends wd p e below s Qb kc ks T' (mkF m (pc + 3) Ls st)) : Ends wd p e below s Qb kc ks T (mkF m pc Ls (v :: .ref a :: st)) := by
  obtain ⟨T', h', X', e', W, st'⟩ := Jvm.RoadKit.putF X hx hZ hown w via eT F E L wi hty hn hf (g := mkF m pc Ls (v :: .ref a :: st)) rfl rfl hd
  exact Ends.go st' (k T' h' X' e' W (F.same W))
theorem Ends.putN (X : Stand p l e R s m args below meth c T locs cells slots) (hx : p.tables.exec = Jvm.exec) (hZ : Z.Warmed39 s.vm) (hown : s.vm.findClass own = some m.cls) (w : (Jvm.Cond.fieldLink own index R0 n d).before a0 Z = true) (via : Via Z R0 O n d) (eT : T.heap = h) (F : Fld Z h a O n d old) (E : Exa Z h a C) (L : (Jvm.Cond.lays C O n d).before a0 Z = true ∨ ((Jvm.Cond.laysFinal C O n d).before a0 Z = true ∧ own = O ∧ meth.name = "<init>")) (wi : (Jvm.Cond.instantiable C kk).before a0 Z = true) (hty : parseFieldDescriptor d = some ty) (hn : narrow ty v = v') (hf : fits ty v' = true) (hd : decode c.code pc = .ok (.putfield index, 3))
    (k : ∀ T' h', Stand p l e R s m args below meth c T' (locs ++ [⟨a, Jvm.RoadKit.slotOf Z O n d⟩]) cells slots → T'.heap = h' → Wr h h' a (Jvm.RoadKit.slotOf Z O n d) v' → Fld Z h' a O n d v' → Ends wd p e below s Qb kc ks T' (mkF m (pc + 3) Ls st)) : Ends wd p e below s Qb kc ks T (mkF m pc Ls (v :: .ref a :: st)) := by
  obtain ⟨T', h', X', e', W, st'⟩ := Jvm.RoadKit.putFN X hx hZ hown w via eT F E L wi hty hn hf (g := mkF m pc Ls (v :: .ref a :: st)) rfl rfl hd
  exact Ends.go st' (k T' h' X' e' W (F.same W))
theorem Ends.initO (X : Stand p l e R s m args below meth c T locs cells slots) (hx : p.tables.exec = Jvm.exec) (hZ : Z.Warmed39 s.vm) (hown : s.vm.findClass own = some m.cls) (w1 : (Jvm.Cond.methodLink own index Lib.objectInit).before a0 Z = true) (w2 : (Jvm.Cond.instanceMethod Lib.objectInit).before a0 Z = true) (w3 : (Jvm.Cond.code Lib.objectInit ⟨#[0xb1]⟩ 1 none).before a0 Z = true) (eT : T.heap = h) (hsz : Ls.size = c.maxLocals) (hd : decode c.code pc = .ok (.invokespecial index, 3)) (hf : 1 ≤ R.frames) {W : Nat} (hW : (st.map fun v => v.category).sum ≤ W) (hl : W + 12 ≤ R.locals)
    (k : ∀ T', Stand p l e R s m args below meth c T' locs cells slots → T'.heap = h → Ends wd p e below s Qb kc ks T' (mkF m (pc + 3) Ls st)) : Ends wd p e below s Qb kc ks T (mkF m pc Ls (.ref a :: st)) := by
  obtain ⟨T', X', e', st'⟩ := Jvm.RoadKit.initO X hx hZ hown w1 w2 w3 eT (g := mkF m pc Ls (.ref a :: st)) rfl hsz rfl hd hf (W := W) (by show 2 * 0 + _ ≤ _; omega) hl
  exact Ends.go st' (k T' X' e')
end OwnHeap2
section OwnHeap3
variable {wd : Bool} {p : Program} {l : Launch} {e : Env} {R : Room} {s : State} {m : MethodId} {args : Array Value} {below : List Frame} {meth : Method} {c : Code} {T : State} {locs : List Loc} {cells slots : Nat} {Z : State} {a0 : Array Value} {h h' h0 : Heap} {Qb : Option Value → Heap → List Loc → Prop} {kc ks : Nat} {a b y : Addr} {ty : FieldType} {vs : List Value} {v : Value} {sl i : Nat} {ws : List Addr} {pc q index : Nat} {Ls : Array Slot} {st : List Value} {j : Int32} {own C n d O R0 host : String}
theorem own_sta_keep (F : Sta Z h C n d v) (K : Keep h h' ws) (q : ∀ x ∈ ws, ∀ cell : Cell, h[x]? = some cell → cell.vm.isStatics = false) : Sta Z h' C n d v := by
  obtain ⟨cf, i, k, f, st, cell, h1, h2, h3, h4, h5, h6, h7⟩ := F
  have ni : st ∉ ws := fun m => by rw [q st m cell h5] at h6; cases h6
  exact ⟨cf, i, k, f, st, cell, h1, h2, h3, h4, K.2.1 st cell h5 ni, h6, h7⟩
theorem own_ns (E : Exa Z h a C) : ∀ x ∈ [a], ∀ cell : Cell, h[x]? = some cell → cell.vm.isStatics = false := fun x m cell q => by
  cases List.mem_singleton.mp m
  obtain ⟨c1, _, h1, -, -, h4, -⟩ := E
  cases h1.symm.trans q; exact h4
theorem own_ns0 : ∀ x ∈ ([] : List Addr), ∀ cell : Cell, h[x]? = some cell → cell.vm.isStatics = false := fun x m => nomatch m
theorem Ends.getS (X : Stand p l e R s m args below meth c T locs cells slots) (hx : p.tables.exec = Jvm.exec) (hZ : Z.Warmed39 s.vm) (hown : s.vm.findClass own = some m.cls) (w : (Jvm.Cond.fieldLink own index R0 n d).before a0 Z = true ∨ (Jvm.Cond.fieldLinkNest own index R0 n d host).before a0 Z = true) (via : Via Z R0 O n d) (eT : T.heap = h) (F : Sta Z h O n d v) (hd : decode c.code pc = .ok (.getstatic index, 3))
    (k : ∀ T', Stand p l e R s m args below meth c T' locs cells slots → T'.heap = h → Ends wd p e below s Qb kc ks T' (mkF m (pc + 3) Ls (v :: st))) : Ends wd p e below s Qb kc ks T (mkF m pc Ls st) := by
  obtain ⟨T', X', e', st'⟩ := getS2 X hx hZ hown w via eT F (g := mkF m pc Ls st) rfl hd
  exact Ends.go st' (k T' X' e')
theorem E.ldc2D {w : UInt64} (X : Stand p l e R s m args below meth c T locs cells slots) (hx : p.tables.exec = Jvm.exec) (hZ : Z.Warmed39 s.vm) (hown : s.vm.findClass own = some m.cls) (hc : (Jvm.Cond.constantDouble own index w).before a0 Z = true) (hd : decode c.code pc = .ok (.ldc2_w index, 3)) (k' : Ends wd p e below s Qb kc ks T (mkF m q Ls (.double w :: st))) (hq : pc + 3 = q := by rfl) : Ends wd p e below s Qb kc ks T (mkF m pc Ls st) := by
  subst hq; exact Ends.go (fun t => X.ldc2DoubleC hx hown (mvT hZ hc) (g := mkF m pc Ls st) rfl hd t) k'
theorem Ends.retD (X : Stand p l e R s m args below meth c T locs cells slots) (hx : p.tables.exec = Jvm.exec) (hlk : meth.locks = false) {z : UInt64} (hret : meth.sig.returnType = some .double) (hd : decode c.code pc = .ok (.dreturn, 1)) (hc : cells ≤ kc) (hs : slots ≤ ks) (hQ : Qb (some (.double z)) T.heap locs) : Ends wd p e below s Qb kc ks T (mkF m pc Ls (.double z :: st)) :=
  Ends.ret X hx hlk hret rfl (Or.inr (Or.inr (Or.inl ⟨rfl, rfl, _, rfl⟩))) hd hc hs hQ
/-- an array of arrays, with what may lie in it -/
def Ar2 (Z : State) (h : Heap) (a : Addr) (ty : FieldType) (C : String) (vs : List Value) : Prop := ∃ c : Cell, Arr Z h a c (.array ty) ∧ c.slots = vs.toArray ∧ vs.length < 2 ^ 31 ∧ OvrA Z c.cls ty C
theorem Ar2.ary (A : Ar2 Z h a ty C vs) : Ary Z h a (.array ty) vs := by obtain ⟨c, A, q, r, -⟩ := A; exact ⟨c, A, q, r⟩
theorem Ar2.lt (A : Ar2 Z h a ty C vs) : a < h.size := A.ary.lt
theorem Ar2.ext (E : Ext h h') (A : Ar2 Z h a ty C vs) : Ar2 Z h' a ty C vs := by obtain ⟨c, A, r⟩ := A; exact ⟨c, A.ext E, r⟩
theorem Ar2.other (W : Wr h h' b sl v) (A : Ar2 Z h a ty C vs) (q : a ≠ b) : Ar2 Z h' a ty C vs := by obtain ⟨c, A, r⟩ := A; exact ⟨c, Arr.other W A q, r⟩
theorem Ar2.keep (A : Ar2 Z h a ty C vs) (K : Keep h h' ws) (q : a ∉ ws) : Ar2 Z h' a ty C vs := by obtain ⟨c, A, r⟩ := A; exact ⟨c, ⟨K.2.1 a c A.1 q, A.2⟩, r⟩
theorem Ar2.set (A : Ar2 Z h a ty C vs) (W : Wr h h' a i v) : Ar2 Z h' a ty C (vs.set i v) := by
  obtain ⟨c, A, e, l, o⟩ := A
  refine ⟨c.setSlot i v, Arr.same W A, ?_, by rw [List.length_set]; exact l, o⟩
  show c.slots.setIfInBounds i v = _
  rw [e]; simp
theorem Ends.newA2 (X : Stand p l e R s m args below meth c T locs cells slots) (hx : p.tables.exec = Jvm.exec) (hZ : Z.Warmed39 s.vm) (hown : s.vm.findClass own = some m.cls) (hC : (FieldType.array ty).toString = C) (w1 : (Jvm.Cond.classLink own index C).before a0 Z = true) (w2 : (Jvm.Cond.arrayOver (.array ty)).before a0 Z = true) (eT : T.heap = h) (hd : decode c.code pc = .ok (.anewarray index, 3)) {n : Int32} {N : Nat} (hn : n = Int32.ofNat N) (hN : N * 8 ≤ 536870912) (hc : cells + 1 ≤ R.cells) (hl : slots + N ≤ R.slots)
    (k : ∀ T' h' b, b = h.size → Stand p l e R s m args below meth c T' locs (cells + 1) (slots + N) → T'.heap = h' → Ext h h' → Ar2 Z h' b ty C (List.replicate N .null) → Ends wd p e below s Qb kc ks T' (mkF m (pc + 3) Ls (.ref b :: st))) : Ends wd p e below s Qb kc ks T (mkF m pc Ls (.int n :: st)) := by
  have q := own_clamp (i := N) (by omega)
  obtain ⟨T', h', cA, X', e', E, A, -, O, st'⟩ := newRA X hx hZ hown hC w1 w2 eT (g := mkF m pc Ls (.int n :: st)) rfl hd rfl (by rw [hn]; exact q.2) (cap := N) (by rw [hn, q.1]; exact Nat.le_refl _) hN hc hl (ad := "[" ++ C) rfl
  refine Ends.go st' (k T' h' _ rfl X' e' E ?_)
  obtain ⟨c', A', q1, q2⟩ := Ary.new (ty := .array ty) A hn (by omega)
  have e1 : c' = Jvm.RoadKit.newA cA (.array ty) n := Option.some.inj (A'.1.symm.trans A.1)
  exact ⟨c', A', q1, q2, by rw [e1]; exact O⟩
theorem Ends.ast (X : Stand p l e R s m args below meth c T locs cells slots) (hx : p.tables.exec = Jvm.exec) (hZ : Z.Warmed39 s.vm) (eT : T.heap = h) (A : Ar2 Z h a ty C vs) (I : Exa Z h y C) (hj : j = Int32.ofNat i) (hi : i < vs.length) (hd : decode c.code pc = .ok (.aastore, 1))
    (k : ∀ T' h', Stand p l e R s m args below meth c T' (locs ++ [⟨a, i⟩]) cells slots → T'.heap = h' → Wr h h' a i (.ref y) → Ar2 Z h' a ty C (vs.set i (.ref y)) → Ends wd p e below s Qb kc ks T' (mkF m (pc + 1) Ls st)) : Ends wd p e below s Qb kc ks T (mkF m pc Ls (.ref y :: .int j :: .ref a :: st)) := by
  obtain ⟨cl, A', q, q2, O⟩ := id A
  obtain ⟨T', h', X', e', W, st'⟩ := stR X hx hZ eT A' (j := j) (own_inb q q2 hj hi) rfl (Sto.ofVA A' rfl O (Ins.self I)) (g := mkF m pc Ls (.ref y :: .int j :: .ref a :: st)) rfl rfl hd
  have hc : j.toNatClampNeg = i := by rw [hj]; exact (own_clamp (by omega)).1
  rw [hc] at X' W
  exact Ends.go st' (k T' h' X' e' W (A.set W))
theorem Ends.newAE (X : Stand p l e R s m args below meth c T locs cells slots) (hx : p.tables.exec = Jvm.exec) (hZ : Z.Warmed39 s.vm) {aty : ArrayType} (w : (Jvm.Cond.arrayClass (newarray.typeOf aty)).before a0 Z = true) (eT : T.heap = h) (hd : decode c.code pc = .ok (.newarray aty, 2)) {n : Int32} {N : Nat} (hn : n = Int32.ofNat N) (hN : N * 8 ≤ 536870912) (hc : cells + 1 ≤ R.cells) (hl : slots + N ≤ R.slots) {ad : String} (had : "[" ++ (newarray.typeOf aty).toString = ad)
    (k : ∀ T' h' b, b = h.size → Stand p l e R s m args below meth c T' locs (cells + 1) (slots + N) → T'.heap = h' → Ext h h' → Ary Z h' b (newarray.typeOf aty) (List.replicate N (defaultValue (newarray.typeOf aty))) → Exa Z h' b ad → Ends wd p e below s Qb kc ks T' (mkF m (pc + 2) Ls (.ref b :: st))) : Ends wd p e below s Qb kc ks T (mkF m pc Ls (.int n :: st)) := by
  have q := own_clamp (i := N) (by omega)
  obtain ⟨T', h', cA, X', e', E, A, E2, st'⟩ := newPE X hx hZ w eT (g := mkF m pc Ls (.int n :: st)) rfl hd rfl (by rw [hn]; exact q.2) (cap := N) (by rw [hn, q.1]; exact Nat.le_refl _) hN hc hl had
  exact Ends.go st' (k T' h' _ rfl X' e' E (Ary.new A hn (by omega)) E2)
end OwnHeap3
/-! own text: roads that load string constants (the base state moves, ReturnedEndW at the end) -/
section OwnWide
variable {wd : Bool} {p : Program} {l : Launch} {e : Env} {R : Room} {s : State} {m : MethodId} {args : Array Value} {below : List Frame} {meth : Method} {c : Code} {T : State} {locs : List Loc} {cells slots : Nat} {Z : State} {a0 : Array Value} {h : Heap} {Qb : Option Value → Heap → List Loc → Prop} {kc ks : Nat}
def Fl (Q : Option Value → Heap → List Loc → Prop) (f : Nat) : Option Value → Heap → List Loc → Prop := fun v h L => Q v h L ∧ f ≤ h.size
theorem Ends.rebase {vm1 : Vm} {f f0 k1 : Nat} {g : JFrame} (hS : s.Since vm1 k1) (hk : k1 ≤ f) (hf : f0 ≤ f) (k : Ends true p e below (s.setVm vm1) (Fl Qb f) kc ks T g) : Ends true p e below s (Fl Qb f0) kc ks T g := by
  obtain ⟨s2, o, st, hr, hE, v, L, ho, hQ, ⟨hret, hW, hB, hs⟩⟩ := k
  have hS2 : (s.setVm vm1).Since s2.vm s2.heap.size := ⟨hW, hB⟩
  have hS3 := hS.trans hS2 (Nat.le_trans hk hQ.2)
  exact ⟨s2, o, st, hr, hE, v, L, ho, ⟨hQ.1, Nat.le_trans hf hQ.2⟩, hret, hS3.1, hS3.2, hs.setVm s.vm⟩
abbrev ConW (l : Launch) (y : MethodName) (code : ByteArray) (ml : Nat) (rt : Option FieldType) (ws : List Jvm.Cond) (rm : Room) (as' : Array Value) (Z : State) (h0 : Heap) (Q : Option Value → Heap → List Loc → Prop) : Prop :=
  MetFree l y (head1 (Jvm.Cond.code y code ml rt :: ws) rm) (fun a U => a = as' ∧ Z.Warmed39 U.vm ∧ U.heap = h0) (fun _ _ _ _ _ => True) (fun _ U o U' => ∃ v L, o = .returned v ∧ Q v U'.heap L ∧ ReturnedEndW U o U' L rm.cells rm.slots)
theorem ConW.of {y : MethodName} {code : ByteArray} {ml : Nat} {rt : Option FieldType} {ws : List Jvm.Cond} {rm : Room} {as' : Array Value} {h0 : Heap} {Q : Option Value → Heap → List Loc → Prop} (hp : plainFor y = true)
    (k : ∀ (p : Program) (e : Env) (s : State) (m : MethodId) (below : List Frame) (meth : Method) (c : Code) (s₁ : State), p.tables.exec = Jvm.exec → Z.Warmed39 s.vm → c.code = code → c.maxLocals = ml → s.vm.findClass y.cls = some m.cls → meth.name = y.name → meth.sig.returnType = rt → meth.locks = false →
      Stand p l e rm s m as' below meth c s₁ [] 0 0 → s₁.heap = h0 → Ends true p e below s (Fl Q 0) rm.cells rm.slots s₁ (entryFrame m as' ml)) : ConW l y code ml rt ws rm as' Z h0 Q := by
  refine MetFree.of_bodySF hp hisR ?_
  intro p e s m args below meth c s₁ Bd hml0 hP hK
  obtain ⟨rfl, hZ, hh⟩ := hP
  obtain ⟨s2, o, h1, h2, h3, v, L, h4, h5, h6⟩ := k p e s m below meth c s₁ Bd.exec hZ Bd.bytes hml0 (findClass_of_methodNamed Bd.named) (name_of_methodNamed Bd.named Bd.method).1 Bd.returns Bd.notSynchronized (Stand.of_body Bd) (by rw [← hh, Bd.state]; rfl)
  exact ⟨s2, o, h1, h2, h3, v, L, h4, h5.1, h6⟩
theorem own_since (s : State) : s.Since s.vm 0 := ⟨State.Warmed39.refl s, fun j p hj hp => absurd (Array.getElem?_eq_some_iff.mp hp).1 (Nat.not_lt.mpr hj)⟩
/-- a string constant, loaded cold: what it spells isn't said -/
theorem Ends.ldcS {f0 : Nat} (X : Stand p l e R s m args below meth c T locs cells slots) (hx : p.tables.exec = Jvm.exec) (hZ : Z.Warmed39 s.vm) {own text : String} {index : Nat} (hown : s.vm.findClass own = some m.cls) (w : (Jvm.Cond.stringLink own index text).before a0 Z = true) (wS : ∀ a ∈ Bundle.stringAtoms, a.before a0 Z = true)
    (eT : T.heap = h) (hf : f0 ≤ h.size) {pc : Nat} {Ls : Array Slot} {st : List Value} (hd : decode c.code pc = .ok (.ldc index, 2)) (n : Nat) (hn : 4 * text.toList.length ≤ n) (hbig : n ≤ 536870912) (hc : cells + 2 ≤ R.cells) (hl : slots + (n + 4) ≤ R.slots)
    (k : ∀ s' T' h' a, Stand p l e R s' m args below meth c T' locs (cells + 2) (slots + (n + 4)) → T'.heap = h' → Ext h h' → Z.Warmed39 s'.vm → s'.vm.findClass own = some m.cls → Ends true p e below s' (Fl Qb h'.size) kc ks T' (mkF m (pc + 2) Ls (.ref a :: st))) : Ends true p e below s (Fl Qb f0) kc ks T (mkF m pc Ls st) := by
  obtain ⟨a, T', h', k1, X', e', E, hS, hk1, hZ', hown', st'⟩ := Jvm.RoadKit.ldcS (s := s) (vm0 := s.vm) X hx hZ hown w wS eT (own_since s) (Nat.zero_le _) (g := mkF m pc Ls st) rfl hd hn hbig hc hl
  exact Ends.rebase hS hk1 (Nat.le_trans hf E.1) (Ends.go st' (k _ T' h' a X' e' E hZ' hown'))
/-- a static call by its contract, wide -/
theorem Ends.callSW {f0 : Nat} (X : Stand p l e R s m args below meth c T locs cells slots) (hx : p.tables.exec = Jvm.exec) (hZ : Z.Warmed39 s.vm) {own : String} (hown : s.vm.findClass own = some m.cls) {index : Nat} {y : MethodName} {bytes : ByteArray} {maxL : Nat} {rt : Option FieldType} {rm : Room} {Q : Option Value → Heap → List Loc → Prop}
    (w1 : (Jvm.Cond.methodLink own index y).before a0 Z = true) (w2 : (Jvm.Cond.static y).before a0 Z = true) (w3 : (Jvm.Cond.initialized y.cls).before a0 Z = true) (w4 : (Jvm.Cond.code y bytes maxL rt).before a0 Z = true) (hy : y.cls ≠ "java/lang/invoke/MethodHandle" ∧ y.cls ≠ "java/lang/invoke/VarHandle")
    {argsL rest : List Value} (eT : T.heap = h) (hf0 : f0 ≤ h.size) (M : ConW l y bytes maxL rt [] rm argsL.toArray Z h Q) {W pc : Nat} (hf : rm.frames + 1 ≤ R.frames) (hl : W + (maxL + 11) + rm.locals ≤ R.locals) {Ls : Array Slot} (hsz : Ls.size = c.maxLocals)
    (hlen : ∀ sig, parseMethodDescriptor y.desc = some sig → argsL.length = sig.parameters.length) (hW : (rest.map fun v => v.category).sum ≤ W) (hd : decode c.code pc = .ok (.invokestatic index, 3)) (hc : cells + rm.cells ≤ R.cells) (hs : slots + rm.slots ≤ R.slots) {st : List Value} (hst : st = argsL.reverse ++ rest)
    (k : ∀ s' T' v L, Stand p l e R s' m args below meth c T' (locs ++ L) (cells + rm.cells) (slots + rm.slots) → Z.Warmed39 s'.vm → s'.vm.findClass own = some m.cls → Q v T'.heap L → Ends true p e below s' (Fl Qb T'.heap.size) kc ks T' (mkF m (pc + 3) Ls (v.toList ++ rest))) :
    Ends true p e below s (Fl Qb f0) kc ks T (mkF m pc Ls st) := by
  obtain ⟨v, vm1, ⟨T1, L1, k1, n1⟩, -, X1, hS, hgr, ⟨Lc, hQ, q1, q2, q3⟩, st1⟩ := Jvm.RoadKit.callSS X hx hown (mvT hZ w1) (mvT hZ w2) (mvT hZ w3) (mvT hZ w4) hy (backOfS (W := W) M hZ w4 w3 hf hl) (g := mkF m pc Ls st) rfl hsz (argsL := argsL) (rest := rest) hlen hst (by show 2 * 0 + _ ≤ _; omega) hd (fun _ _ => ⟨rfl, eT, hc, hs⟩)
  dsimp only [Pt.U, Pt.locs, Pt.cells, Pt.slots] at X1 q1 q2 q3 st1 hQ hS hgr
  subst q1 q2 q3
  refine Ends.rebase hS (Nat.le_refl _) (Nat.le_trans hf0 (by rw [← eT]; exact hgr)) (Ends.go (fun t kt => st1.trans kt) (k _ T1 v Lc X1 (State.Warmed39.trans (t := s) hZ hS.1) (by show T1.vm.findClass own = _; rw [hS.1.alike.findClass]; exact hown) hQ))
/-- a constructor by its contract, wide -/
theorem Ends.callIW {f0 : Nat} (X : Stand p l e R s m args below meth c T locs cells slots) (hx : p.tables.exec = Jvm.exec) (hZ : Z.Warmed39 s.vm) {own : String} (hown : s.vm.findClass own = some m.cls) {index : Nat} {y : MethodName} {bytes : ByteArray} {maxL : Nat} {rm : Room} {Q : Option Value → Heap → List Loc → Prop}
    (w1 : (Jvm.Cond.methodLink own index y).before a0 Z = true) (w2 : (Jvm.Cond.instanceMethod y).before a0 Z = true) (w3 : (Jvm.Cond.initialized y.cls).before a0 Z = true) (w4 : (Jvm.Cond.code y bytes maxL none).before a0 Z = true) (hyn : y.name = "<init>") (hy : y.cls ≠ "java/lang/invoke/MethodHandle" ∧ y.cls ≠ "java/lang/invoke/VarHandle")
    {b : Addr} {argsL rest : List Value} (eT : T.heap = h) (hf0 : f0 ≤ h.size) (M : ConW l y bytes maxL none [] rm (.ref b :: argsL).toArray Z h Q) {W pc : Nat} (hf : rm.frames + 1 ≤ R.frames) (hl : W + (maxL + 11) + rm.locals ≤ R.locals) {Ls : Array Slot} (hsz : Ls.size = c.maxLocals)
    (hlen : ∀ sig, parseMethodDescriptor y.desc = some sig → argsL.length = sig.parameters.length) (hW : (rest.map fun v => v.category).sum ≤ W) (hd : decode c.code pc = .ok (.invokespecial index, 3)) (hc : cells + rm.cells ≤ R.cells) (hs : slots + rm.slots ≤ R.slots) {st : List Value} (hst : st = argsL.reverse ++ .ref b :: rest)
    (k : ∀ s' T' v L, Stand p l e R s' m args below meth c T' (locs ++ L) (cells + rm.cells) (slots + rm.slots) → Z.Warmed39 s'.vm → s'.vm.findClass own = some m.cls → Q v T'.heap L → Ends true p e below s' (Fl Qb T'.heap.size) kc ks T' (mkF m (pc + 3) Ls (v.toList ++ rest))) :
    Ends true p e below s (Fl Qb f0) kc ks T (mkF m pc Ls st) := by
  obtain ⟨v, vm1, ⟨T1, L1, k1, n1⟩, -, X1, hS, hgr, ⟨Lc, hQ, q1, q2, q3⟩, st1⟩ := X.specialBackS hx hyn hown (mvT hZ w1) (mvT hZ w2) (mvT hZ w4) hy (backOfS (W := W) M hZ w4 w3 hf hl) (g := mkF m pc Ls st) rfl hsz (Steps.refl _) (a := b) (argsL := argsL) (rest := rest) hlen hst (by show 2 * 0 + _ ≤ _; omega) hd (fun _ _ => ⟨rfl, eT, hc, hs⟩)
  dsimp only [Pt.U, Pt.locs, Pt.cells, Pt.slots] at X1 q1 q2 q3 st1 hQ hS hgr
  subst q1 q2 q3
  refine Ends.rebase hS (Nat.le_refl _) (Nat.le_trans hf0 (by rw [← eT]; exact hgr)) (Ends.go (fun t kt => st1.trans kt) (k _ T1 v Lc X1 (State.Warmed39.trans (t := s) hZ hS.1) (by show T1.vm.findClass own = _; rw [hS.1.alike.findClass]; exact hown) hQ))
/-- instanceof and checkcast -/
theorem Ends.instY (X : Stand p l e R s m args below meth c T locs cells slots) (hx : p.tables.exec = Jvm.exec) (hZ : Z.Warmed39 s.vm) {own K : String} {index : Nat} (hown : s.vm.findClass own = some m.cls) (w : (Jvm.Cond.classLink own index K).before a0 Z = true) (eT : T.heap = h) {a : Addr} (F : Ins Z h a K true) {pc : Nat} {Ls : Array Slot} {st : List Value} (hd : decode c.code pc = .ok (.instanceof index, 3))
    (k : ∀ T', Stand p l e R s m args below meth c T' locs cells slots → T'.heap = h → Ends wd p e below s Qb kc ks T' (mkF m (pc + 3) Ls (.int 1 :: st))) : Ends wd p e below s Qb kc ks T (mkF m pc Ls (.ref a :: st)) := by
  obtain ⟨T', X', e', st'⟩ := Jvm.RoadKit.instY X hx hZ hown w eT F (g := mkF m pc Ls (.ref a :: st)) rfl rfl hd
  exact Ends.go st' (k T' X' e')
theorem Ends.instNo (X : Stand p l e R s m args below meth c T locs cells slots) (hx : p.tables.exec = Jvm.exec) (hZ : Z.Warmed39 s.vm) {own K C : String} {index : Nat} (hown : s.vm.findClass own = some m.cls) (w : (Jvm.Cond.classLink own index K).before a0 Z = true) (eT : T.heap = h) {a : Addr} (E : Exa Z h a C) (F : ∃ c t, Z.vm.findClass C = some c ∧ Z.vm.findClass K = some t ∧ Z.vm.assignable c t = false) {pc : Nat} {Ls : Array Slot} {st : List Value} (hd : decode c.code pc = .ok (.instanceof index, 3))
    (k : ∀ T', Stand p l e R s m args below meth c T' locs cells slots → T'.heap = h → Ends wd p e below s Qb kc ks T' (mkF m (pc + 3) Ls (.int 0 :: st))) : Ends wd p e below s Qb kc ks T (mkF m pc Ls (.ref a :: st)) := by
  obtain ⟨T', X', e', st'⟩ := Jvm.RoadKit.instNo X hx hZ hown w eT E F (g := mkF m pc Ls (.ref a :: st)) rfl rfl hd
  exact Ends.go st' (k T' X' e')
theorem Ends.castY (X : Stand p l e R s m args below meth c T locs cells slots) (hx : p.tables.exec = Jvm.exec) (hZ : Z.Warmed39 s.vm) {own K : String} {index : Nat} (hown : s.vm.findClass own = some m.cls) (w : (Jvm.Cond.classLink own index K).before a0 Z = true) (eT : T.heap = h) {a : Addr} (F : Ins Z h a K true) {pc : Nat} {Ls : Array Slot} {st : List Value} (hd : decode c.code pc = .ok (.checkcast index, 3))
    (k : ∀ T', Stand p l e R s m args below meth c T' locs cells slots → T'.heap = h → Ends wd p e below s Qb kc ks T' (mkF m (pc + 3) Ls (.ref a :: st))) : Ends wd p e below s Qb kc ks T (mkF m pc Ls (.ref a :: st)) := by
  obtain ⟨T', X', e', st'⟩ := Jvm.RoadKit.castY X hx hZ hown w eT F (g := mkF m pc Ls (.ref a :: st)) rfl rfl hd
  exact Ends.go st' (k T' X' e')
theorem Ends.instNull (X : Stand p l e R s m args below meth c T locs cells slots) (hx : p.tables.exec = Jvm.exec) {index pc : Nat} {Ls : Array Slot} {st : List Value} (hd : decode c.code pc = .ok (.instanceof index, 3)) (k : Ends wd p e below s Qb kc ks T (mkF m (pc + 3) Ls (.int 0 :: st))) : Ends wd p e below s Qb kc ks T (mkF m pc Ls (.null :: st)) :=
  Ends.go (fun t => X.instanceofNull hx (g := mkF m pc Ls (.null :: st)) rfl rfl hd t) k
theorem E.acmpY {x y : Value} {cd : ClassFile.ACond} {o : Int} {pc q : Nat} {Ls : Array Slot} {st : List Value} (X : Stand p l e R s m args below meth c T locs cells slots) (hx : p.tables.exec = Jvm.exec) (hd : decode c.code pc = .ok (.if_acmp cd o, 3)) (h1 : x.isRef = true) (h2 : y.isRef = true) (hc : Jvm.Free.XT.acmp cd x y = true) (k' : Ends wd p e below s Qb kc ks T (mkF m q Ls st)) (ho : 0 ≤ (pc : Int) + o := by decide) (hq : ((pc : Int) + o).toNat = q := by decide) : Ends wd p e below s Qb kc ks T (mkF m pc Ls (y :: x :: st)) :=
  Ends.go (fun t => Jvm.Free.XT.acmpYes X.here hx rfl rfl hd rfl h1 h2 hc ho hq) k'
theorem E.acmpN {x y : Value} {cd : ClassFile.ACond} {o : Int} {pc q : Nat} {Ls : Array Slot} {st : List Value} (X : Stand p l e R s m args below meth c T locs cells slots) (hx : p.tables.exec = Jvm.exec) (hd : decode c.code pc = .ok (.if_acmp cd o, 3)) (h1 : x.isRef = true) (h2 : y.isRef = true) (hc : Jvm.Free.XT.acmp cd x y = false) (k' : Ends wd p e below s Qb kc ks T (mkF m q Ls st)) (hq : pc + 3 = q := by rfl) : Ends wd p e below s Qb kc ks T (mkF m pc Ls (y :: x :: st)) := by
  subst hq; exact Ends.go (fun t => Jvm.Free.XT.acmpNo X.here hx rfl hd rfl h1 h2 hc) k'
theorem own_notA {C S K : String} {n : Nat} (w : (Jvm.Cond.superclass C S).before a0 Z = true) (w2 : (Jvm.Cond.noSuperclass S).before a0 Z = true) (wi : (Jvm.Cond.instantiable K n).before a0 Z = true) (h1 : C ≠ K) (h2 : S ≠ K) : ∃ c t, Z.vm.findClass C = some c ∧ Z.vm.findClass K = some t ∧ Z.vm.assignable c t = false := by
  obtain ⟨t, kt, f1, f2, f3, f4, -, -⟩ := Cond.instantiable_spec wi
  obtain ⟨c, h0⟩ := found_sup w
  obtain ⟨p, k, kp, g1, g2, g3, g4, g5, -, g7⟩ := Cond.superclass_spec h0 w
  obtain ⟨c', k', q1, q2, q3, -, -⟩ := Cond.noSuperclass_spec w2
  cases q1.symm.trans g1
  have ne1 := ids_ne h0 f1 h1
  have ne2 := ids_ne g1 f1 h2
  have hi : kt.isInterface = false := by simp only [Bool.or_eq_false_iff] at f4; exact f4.1
  refine ⟨c, t, h0, f1, ?_⟩
  show Z.vm.assignableAux (255 + 1) c t = false
  have n3 : ∀ fuel, Z.vm.isSubclassAux fuel c t = false := fun fuel => by
    cases fuel with
    | zero => rfl
    | succ f =>
      cases f with
      | zero => simp [Vm.isSubclassAux, ne1, g2, g4]
      | succ f => simp [Vm.isSubclassAux, ne1, ne2, g2, g4, q2, q3]
  simp [Vm.assignableAux, ne1, g2, f2, g5, f3, hi, Vm.isSubclass, n3]
theorem Ary.len {a : Addr} {ty : FieldType} {vs : List Value} (A : Ary Z h a ty vs) : vs.length < 2 ^ 31 := by obtain ⟨_, _, _, q⟩ := A; exact q
end OwnWide
/-! own text: bytes of chars 0 to 255 -/
theorem own_wr_le {h h' : Heap} {a : Addr} {sl : Nat} {v : Value} (W : Wr h h' a sl v) : h.size ≤ h'.size := by
  obtain ⟨c, -, -, -, rfl⟩ := W; simp
theorem own_nb8 (c : Int32) : nar .byte c.toInt8.toInt32 = c.toInt8.toInt32 := by
  show (c.toInt8.toInt32).toInt8.toInt32 = c.toInt8.toInt32
  simp
/-- a sign of one byte -/
def own_B (z : Int32) : Prop := 0 ≤ z.toInt ∧ z.toInt ≤ 255
theorem own_B_le {z : Int32} (h : own_B z) : ¬ (255 : Int32) < z := by
  rw [Int32.lt_iff_toInt_lt, show (255 : Int32).toInt = 255 from by decide]; have := h.2; omega
theorem own_i8 (z : Int32) : z.toInt8.toInt32.toInt = z.toInt.bmod 256 := by
  rw [Int8.toInt_toInt32]; exact Int32.toInt_toInt8 z
theorem own_b8 {z w : Int32} (h : own_B z) (g : own_B w) : z.toInt8.toInt32 = w.toInt8.toInt32 ↔ z = w := by
  refine ⟨fun q => ?_, fun q => by rw [q]⟩
  have q' := congrArg Int32.toInt q
  rw [own_i8, own_i8] at q'
  refine Int32.toInt_inj.mp ?_
  obtain ⟨h1, h2⟩ := h; obtain ⟨g1, g2⟩ := g
  simp only [Int.bmod] at q'
  split at q' <;> split at q' <;> omega
theorem own_and255 (x : Int32) : own_B (x &&& 255) := by
  have e : (x &&& 255).toInt = ((x.toBitVec.toNat &&& 255 : Nat) : Int) := by
    show ((x &&& 255).toBitVec).toInt = _
    rw [BitVec.toInt_eq_toNat_of_lt]
    · congr 1
    · show 2 * (x.toBitVec.toNat &&& 255) < 2 ^ 32
      have : x.toBitVec.toNat &&& 255 ≤ 255 := Nat.and_le_right
      omega
  have : x.toBitVec.toNat &&& 255 ≤ 255 := Nat.and_le_right
  constructor <;> rw [e] <;> omega
theorem own_nc {z : Int32} (h : own_B z) : z.toUInt32.toUInt16.toUInt32.toInt32 = z := by
  have q : z.toBitVec.toNat ≤ 255 := by
    have e : z.toInt = z.toBitVec.toInt := rfl
    obtain ⟨h1, h2⟩ := h
    rw [e, BitVec.toInt_eq_toNat_cond] at h1 h2
    split at h1 <;> split at h2 <;> omega
  have e : z.toUInt32.toUInt16.toUInt32 = z.toUInt32 := by
    refine UInt32.toNat_inj.mp ?_
    have r : z.toUInt32.toNat ≤ 255 := q
    simp
    omega
  rw [e]; simp
theorem own_ch {x z : Int32} (e : z = (x &&& 255).toUInt32.toUInt16.toUInt32.toInt32) : own_B z ∧ nar .char z = z := by
  have h := own_and255 x
  rw [own_nc h] at e
  subst e
  exact ⟨h, own_nc h⟩
theorem own_succ (i : Nat) : (Int32.ofNat i + (1 : Int32)) = Int32.ofNat (i + 1) := (Int32.ofNat_add i 1).symm
theorem own_R2 {k1 k2 a b c d : Int32} {s1 s2 : Int64} (h1 : own_B k1) (h2 : own_B k2) (ha : own_B a) (hb' : own_B b) (hc : own_B c) (hd : own_B d) : ([k1.toInt8.toInt32] = [k2.toInt8.toInt32] ∧ [a.toInt8.toInt32, b.toInt8.toInt32] = [c.toInt8.toInt32, d.toInt8.toInt32] ∧ s1 = s2) ↔ (k1 = k2 ∧ a = c ∧ b = d ∧ s1 = s2) := by
  simp only [List.cons.injEq, and_true, own_b8 h1 h2, own_b8 ha hc, own_b8 hb' hd, and_assoc]
theorem own_R1 {k1 k2 a b c : Int32} {s1 s2 : Int64} : ¬ ([k1] = [k2] ∧ [a, b] = [c] ∧ s1 = s2) := by simp
theorem own_sw {A B A' B' : List Int32} {s1 s2 : Int64} : (if A' = A ∧ B' = B ∧ s2 = s1 then (1 : Int32) else 0) = if A = A' ∧ B = B' ∧ s1 = s2 then (1 : Int32) else 0 := by
  simp only [eq_comm]
theorem pn_0 : plainName "java/lang/StringLatin1" = true := by first | (simp [plainName, overriddenIn]; done) | decide +kernel
theorem pn_1 : plainName "java/lang/String" = true := by first | (simp [plainName, overriddenIn]; done) | decide +kernel
theorem pn_2 : plainName "java/lang/StringUTF16" = true := by first | (simp [plainName, overriddenIn]; done) | decide +kernel
theorem pn_3 : plainName "java/util/Objects" = true := by first | (simp [plainName, overriddenIn]; done) | decide +kernel
theorem pn_4 : plainName "com/example/people_in_groups/peopleingroups/model/ExtensionPair" = true := by first | (simp [plainName, overriddenIn]; done) | decide +kernel
theorem pn_5 : plainName "com/example/people_in_groups/peopleingroups/model/ExtensionPairEqualsPinLaw" = true := by first | (simp [plainName, overriddenIn]; done) | decide +kernel
theorem pd_0 : parseMethodDescriptor "(C)Z" = some ⟨[.char], some .boolean⟩ := by decide +kernel
theorem pd_1 : parseMethodDescriptor "(C)[B" = some ⟨[.char], some (.array .byte)⟩ := by decide +kernel
theorem pd_2 : parseMethodDescriptor "([BB)V" = some ⟨[(.array .byte), .byte], none⟩ := by decide +kernel
theorem pd_3 : parseMethodDescriptor "([CI[BII)I" = some ⟨[(.array .char), .int, (.array .byte), .int, .int], some .int⟩ := by decide +kernel
theorem pd_4 : parseMethodDescriptor "([CII)[B" = some ⟨[(.array .char), .int, .int], some (.array .byte)⟩ := by decide +kernel
theorem pd_5 : parseMethodDescriptor "([BI)B" = some ⟨[(.array .byte), .int], some .byte⟩ := by decide +kernel
theorem pd_6 : parseMethodDescriptor "([CIILjava/lang/Void;)V" = some ⟨[(.array .char), .int, .int, (.object "java/lang/Void")], none⟩ := by decide +kernel
theorem pd_7 : parseMethodDescriptor "([B[B)Z" = some ⟨[(.array .byte), (.array .byte)], some .boolean⟩ := by decide +kernel
theorem pd_8 : parseMethodDescriptor "(Ljava/lang/Object;Ljava/lang/String;)Ljava/lang/Object;" = some ⟨[(.object "java/lang/Object"), (.object "java/lang/String")], some (.object "java/lang/Object")⟩ := by decide +kernel
theorem pd_9 : parseMethodDescriptor "(Ljava/lang/Object;)Z" = some ⟨[(.object "java/lang/Object")], some .boolean⟩ := by decide +kernel
theorem pd_10 : parseMethodDescriptor "(C)Ljava/lang/String;" = some ⟨[.char], some (.object "java/lang/String")⟩ := by decide +kernel
theorem pd_11 : parseMethodDescriptor "([C)V" = some ⟨[(.array .char)], none⟩ := by decide +kernel
theorem pd_12 : parseMethodDescriptor "(Ljava/lang/String;Ljava/lang/String;J)V" = some ⟨[(.object "java/lang/String"), (.object "java/lang/String"), .long], none⟩ := by decide +kernel
theorem d1_0 : decode jdk_42_method_139_code 0 = .ok (.getstatic 38, 3) := by decide +kernel
theorem d1_3 : decode jdk_42_method_139_code 3 = .ok (.ifCond .eq 23, 3) := by decide +kernel
theorem d1_6 : decode jdk_42_method_139_code 6 = .ok (.iload_n 0, 1) := by decide +kernel
theorem d1_7 : decode jdk_42_method_139_code 7 = .ok (.invokestatic 1015, 3) := by decide +kernel
theorem d1_10 : decode jdk_42_method_139_code 10 = .ok (.ifCond .eq 16, 3) := by decide +kernel
theorem d1_13 : decode jdk_42_method_139_code 13 = .ok (.new 10, 3) := by decide +kernel
theorem d1_16 : decode jdk_42_method_139_code 16 = .ok (.dup, 1) := by decide +kernel
theorem d1_17 : decode jdk_42_method_139_code 17 = .ok (.iload_n 0, 1) := by decide +kernel
theorem d1_18 : decode jdk_42_method_139_code 18 = .ok (.invokestatic 1018, 3) := by decide +kernel
theorem d1_21 : decode jdk_42_method_139_code 21 = .ok (.iconst 0, 1) := by decide +kernel
theorem d1_22 : decode jdk_42_method_139_code 22 = .ok (.invokespecial 209, 3) := by decide +kernel
theorem d1_25 : decode jdk_42_method_139_code 25 = .ok (.areturn, 1) := by decide +kernel
theorem d2_0 : decode jdk_43_method_3_code 0 = .ok (.iload_n 0, 1) := by decide +kernel
theorem d2_1 : decode jdk_43_method_3_code 1 = .ok (.sipush 255, 3) := by decide +kernel
theorem d2_4 : decode jdk_43_method_3_code 4 = .ok (.if_icmp .gt 7, 3) := by decide +kernel
theorem d2_7 : decode jdk_43_method_3_code 7 = .ok (.iconst 1, 1) := by decide +kernel
theorem d2_8 : decode jdk_43_method_3_code 8 = .ok (.goto 4, 3) := by decide +kernel
theorem d2_12 : decode jdk_43_method_3_code 12 = .ok (.ireturn, 1) := by decide +kernel
theorem d3_0 : decode jdk_43_method_46_code 0 = .ok (.iconst 1, 1) := by decide +kernel
theorem d3_1 : decode jdk_43_method_46_code 1 = .ok (.newarray .byte, 2) := by decide +kernel
theorem d3_3 : decode jdk_43_method_46_code 3 = .ok (.dup, 1) := by decide +kernel
theorem d3_4 : decode jdk_43_method_46_code 4 = .ok (.iconst 0, 1) := by decide +kernel
theorem d3_5 : decode jdk_43_method_46_code 5 = .ok (.iload_n 0, 1) := by decide +kernel
theorem d3_6 : decode jdk_43_method_46_code 6 = .ok (.i2b, 1) := by decide +kernel
theorem d3_7 : decode jdk_43_method_46_code 7 = .ok (.bastore, 1) := by decide +kernel
theorem d3_8 : decode jdk_43_method_46_code 8 = .ok (.areturn, 1) := by decide +kernel
theorem d4_0 : decode jdk_42_method_151_code 0 = .ok (.aload_n 0, 1) := by decide +kernel
theorem d4_1 : decode jdk_42_method_151_code 1 = .ok (.invokespecial 1, 3) := by decide +kernel
theorem d4_4 : decode jdk_42_method_151_code 4 = .ok (.aload_n 0, 1) := by decide +kernel
theorem d4_5 : decode jdk_42_method_151_code 5 = .ok (.aload_n 1, 1) := by decide +kernel
theorem d4_6 : decode jdk_42_method_151_code 6 = .ok (.putfield 9, 3) := by decide +kernel
theorem d4_9 : decode jdk_42_method_151_code 9 = .ok (.aload_n 0, 1) := by decide +kernel
theorem d4_10 : decode jdk_42_method_151_code 10 = .ok (.iload_n 2, 1) := by decide +kernel
theorem d4_11 : decode jdk_42_method_151_code 11 = .ok (.putfield 15, 3) := by decide +kernel
theorem d4_14 : decode jdk_42_method_151_code 14 = .ok (.return_, 1) := by decide +kernel
theorem d6_0 : decode jdk_42_method_3_code 0 = .ok (.aload_n 0, 1) := by decide +kernel
theorem d6_1 : decode jdk_42_method_3_code 1 = .ok (.aload_n 1, 1) := by decide +kernel
theorem d6_2 : decode jdk_42_method_3_code 2 = .ok (.iconst 0, 1) := by decide +kernel
theorem d6_3 : decode jdk_42_method_3_code 3 = .ok (.aload_n 1, 1) := by decide +kernel
theorem d6_4 : decode jdk_42_method_3_code 4 = .ok (.arraylength, 1) := by decide +kernel
theorem d6_5 : decode jdk_42_method_3_code 5 = .ok (.aconst_null, 1) := by decide +kernel
theorem d6_6 : decode jdk_42_method_3_code 6 = .ok (.invokespecial 27, 3) := by decide +kernel
theorem d6_9 : decode jdk_42_method_3_code 9 = .ok (.return_, 1) := by decide +kernel
theorem d7_0 : decode jdk_42_method_149_code 0 = .ok (.aload_n 0, 1) := by decide +kernel
theorem d7_1 : decode jdk_42_method_149_code 1 = .ok (.invokespecial 1, 3) := by decide +kernel
theorem d7_4 : decode jdk_42_method_149_code 4 = .ok (.iload_n 3, 1) := by decide +kernel
theorem d7_5 : decode jdk_42_method_149_code 5 = .ok (.ifCond .ne 22, 3) := by decide +kernel
theorem d7_27 : decode jdk_42_method_149_code 27 = .ok (.getstatic 38, 3) := by decide +kernel
theorem d7_30 : decode jdk_42_method_149_code 30 = .ok (.ifCond .eq 28, 3) := by decide +kernel
theorem d7_33 : decode jdk_42_method_149_code 33 = .ok (.aload_n 1, 1) := by decide +kernel
theorem d7_34 : decode jdk_42_method_149_code 34 = .ok (.iload_n 2, 1) := by decide +kernel
theorem d7_35 : decode jdk_42_method_149_code 35 = .ok (.iload_n 3, 1) := by decide +kernel
theorem d7_36 : decode jdk_42_method_149_code 36 = .ok (.invokestatic 177, 3) := by decide +kernel
theorem d7_39 : decode jdk_42_method_149_code 39 = .ok (.astore 5, 2) := by decide +kernel
theorem d7_41 : decode jdk_42_method_149_code 41 = .ok (.aload_n 0, 1) := by decide +kernel
theorem d7_42 : decode jdk_42_method_149_code 42 = .ok (.aload 5, 2) := by decide +kernel
theorem d7_44 : decode jdk_42_method_149_code 44 = .ok (.iload_n 3, 1) := by decide +kernel
theorem d7_45 : decode jdk_42_method_149_code 45 = .ok (.invokestatic 47, 3) := by decide +kernel
theorem d7_48 : decode jdk_42_method_149_code 48 = .ok (.putfield 15, 3) := by decide +kernel
theorem d7_51 : decode jdk_42_method_149_code 51 = .ok (.aload_n 0, 1) := by decide +kernel
theorem d7_52 : decode jdk_42_method_149_code 52 = .ok (.aload 5, 2) := by decide +kernel
theorem d7_54 : decode jdk_42_method_149_code 54 = .ok (.putfield 9, 3) := by decide +kernel
theorem d7_57 : decode jdk_42_method_149_code 57 = .ok (.return_, 1) := by decide +kernel
theorem d8_0 : decode jdk_52_method_16_code 0 = .ok (.iload_n 2, 1) := by decide +kernel
theorem d8_1 : decode jdk_52_method_16_code 1 = .ok (.newarray .byte, 2) := by decide +kernel
theorem d8_3 : decode jdk_52_method_16_code 3 = .ok (.astore_n 3, 1) := by decide +kernel
theorem d8_4 : decode jdk_52_method_16_code 4 = .ok (.aload_n 0, 1) := by decide +kernel
theorem d8_5 : decode jdk_52_method_16_code 5 = .ok (.iload_n 1, 1) := by decide +kernel
theorem d8_6 : decode jdk_52_method_16_code 6 = .ok (.aload_n 3, 1) := by decide +kernel
theorem d8_7 : decode jdk_52_method_16_code 7 = .ok (.iconst 0, 1) := by decide +kernel
theorem d8_8 : decode jdk_52_method_16_code 8 = .ok (.iload_n 2, 1) := by decide +kernel
theorem d8_9 : decode jdk_52_method_16_code 9 = .ok (.invokestatic 115, 3) := by decide +kernel
theorem d8_12 : decode jdk_52_method_16_code 12 = .ok (.istore 4, 2) := by decide +kernel
theorem d8_14 : decode jdk_52_method_16_code 14 = .ok (.iload 4, 2) := by decide +kernel
theorem d8_16 : decode jdk_52_method_16_code 16 = .ok (.iload_n 2, 1) := by decide +kernel
theorem d8_17 : decode jdk_52_method_16_code 17 = .ok (.if_icmp .eq 40, 3) := by decide +kernel
theorem d8_57 : decode jdk_52_method_16_code 57 = .ok (.aload_n 3, 1) := by decide +kernel
theorem d8_58 : decode jdk_52_method_16_code 58 = .ok (.areturn, 1) := by decide +kernel
theorem d9_0 : decode jdk_52_method_21_code 0 = .ok (.iconst 0, 1) := by decide +kernel
theorem d9_1 : decode jdk_52_method_21_code 1 = .ok (.istore 5, 2) := by decide +kernel
theorem d9_3 : decode jdk_52_method_21_code 3 = .ok (.iload 5, 2) := by decide +kernel
theorem d9_5 : decode jdk_52_method_21_code 5 = .ok (.iload 4, 2) := by decide +kernel
theorem d9_7 : decode jdk_52_method_21_code 7 = .ok (.if_icmp .ge 37, 3) := by decide +kernel
theorem d9_10 : decode jdk_52_method_21_code 10 = .ok (.aload_n 0, 1) := by decide +kernel
theorem d9_11 : decode jdk_52_method_21_code 11 = .ok (.iload_n 1, 1) := by decide +kernel
theorem d9_12 : decode jdk_52_method_21_code 12 = .ok (.caload, 1) := by decide +kernel
theorem d9_13 : decode jdk_52_method_21_code 13 = .ok (.istore 6, 2) := by decide +kernel
theorem d9_15 : decode jdk_52_method_21_code 15 = .ok (.iload 6, 2) := by decide +kernel
theorem d9_17 : decode jdk_52_method_21_code 17 = .ok (.sipush 255, 3) := by decide +kernel
theorem d9_20 : decode jdk_52_method_21_code 20 = .ok (.if_icmp .le 6, 3) := by decide +kernel
theorem d9_26 : decode jdk_52_method_21_code 26 = .ok (.aload_n 2, 1) := by decide +kernel
theorem d9_27 : decode jdk_52_method_21_code 27 = .ok (.iload_n 3, 1) := by decide +kernel
theorem d9_28 : decode jdk_52_method_21_code 28 = .ok (.iload 6, 2) := by decide +kernel
theorem d9_30 : decode jdk_52_method_21_code 30 = .ok (.i2b, 1) := by decide +kernel
theorem d9_31 : decode jdk_52_method_21_code 31 = .ok (.bastore, 1) := by decide +kernel
theorem d9_32 : decode jdk_52_method_21_code 32 = .ok (.iinc 1 1, 3) := by decide +kernel
theorem d9_35 : decode jdk_52_method_21_code 35 = .ok (.iinc 3 1, 3) := by decide +kernel
theorem d9_38 : decode jdk_52_method_21_code 38 = .ok (.iinc 5 1, 3) := by decide +kernel
theorem d9_41 : decode jdk_52_method_21_code 41 = .ok (.goto (-38), 3) := by decide +kernel
theorem d9_44 : decode jdk_52_method_21_code 44 = .ok (.iload 4, 2) := by decide +kernel
theorem d9_46 : decode jdk_52_method_21_code 46 = .ok (.ireturn, 1) := by decide +kernel
theorem d10_0 : decode jdk_52_method_15_code 0 = .ok (.iload_n 1, 1) := by decide +kernel
theorem d10_1 : decode jdk_52_method_15_code 1 = .ok (.aload_n 0, 1) := by decide +kernel
theorem d10_2 : decode jdk_52_method_15_code 2 = .ok (.arraylength, 1) := by decide +kernel
theorem d10_3 : decode jdk_52_method_15_code 3 = .ok (.isub, 1) := by decide +kernel
theorem d10_4 : decode jdk_52_method_15_code 4 = .ok (.bipush 31, 2) := by decide +kernel
theorem d10_6 : decode jdk_52_method_15_code 6 = .ok (.iushr, 1) := by decide +kernel
theorem d10_7 : decode jdk_52_method_15_code 7 = .ok (.i2b, 1) := by decide +kernel
theorem d10_8 : decode jdk_52_method_15_code 8 = .ok (.ireturn, 1) := by decide +kernel
theorem d11_0 : decode prog_7_method_1_code 0 = .ok (.aload_n 0, 1) := by decide +kernel
theorem d11_1 : decode prog_7_method_1_code 1 = .ok (.invokespecial 1, 3) := by decide +kernel
theorem d11_4 : decode prog_7_method_1_code 4 = .ok (.aload_n 0, 1) := by decide +kernel
theorem d11_5 : decode prog_7_method_1_code 5 = .ok (.aload_n 1, 1) := by decide +kernel
theorem d11_6 : decode prog_7_method_1_code 6 = .ok (.ldc 7, 2) := by decide +kernel
theorem d11_8 : decode prog_7_method_1_code 8 = .ok (.invokestatic 9, 3) := by decide +kernel
theorem d11_11 : decode prog_7_method_1_code 11 = .ok (.checkcast 15, 3) := by decide +kernel
theorem d11_14 : decode prog_7_method_1_code 14 = .ok (.putfield 17, 3) := by decide +kernel
theorem d11_17 : decode prog_7_method_1_code 17 = .ok (.aload_n 0, 1) := by decide +kernel
theorem d11_18 : decode prog_7_method_1_code 18 = .ok (.aload_n 2, 1) := by decide +kernel
theorem d11_19 : decode prog_7_method_1_code 19 = .ok (.ldc 22, 2) := by decide +kernel
theorem d11_21 : decode prog_7_method_1_code 21 = .ok (.invokestatic 9, 3) := by decide +kernel
theorem d11_24 : decode prog_7_method_1_code 24 = .ok (.checkcast 15, 3) := by decide +kernel
theorem d11_27 : decode prog_7_method_1_code 27 = .ok (.putfield 24, 3) := by decide +kernel
theorem d11_30 : decode prog_7_method_1_code 30 = .ok (.aload_n 0, 1) := by decide +kernel
theorem d11_31 : decode prog_7_method_1_code 31 = .ok (.lload_n 3, 1) := by decide +kernel
theorem d11_32 : decode prog_7_method_1_code 32 = .ok (.putfield 26, 3) := by decide +kernel
theorem d11_35 : decode prog_7_method_1_code 35 = .ok (.return_, 1) := by decide +kernel
theorem d12_0 : decode jdk_31_method_11_code 0 = .ok (.aload_n 0, 1) := by decide +kernel
theorem d12_1 : decode jdk_31_method_11_code 1 = .ok (.ifnonnull 12, 3) := by decide +kernel
theorem d12_13 : decode jdk_31_method_11_code 13 = .ok (.aload_n 0, 1) := by decide +kernel
theorem d12_14 : decode jdk_31_method_11_code 14 = .ok (.areturn, 1) := by decide +kernel
theorem d13_0 : decode prog_7_method_5_code 0 = .ok (.aload_n 1, 1) := by decide +kernel
theorem d13_1 : decode prog_7_method_5_code 1 = .ok (.instanceof 18, 3) := by decide +kernel
theorem d13_4 : decode prog_7_method_5_code 4 = .ok (.ifCond .ne 5, 3) := by decide +kernel
theorem d13_7 : decode prog_7_method_5_code 7 = .ok (.iconst 0, 1) := by decide +kernel
theorem d13_8 : decode prog_7_method_5_code 8 = .ok (.ireturn, 1) := by decide +kernel
theorem d13_9 : decode prog_7_method_5_code 9 = .ok (.aload_n 1, 1) := by decide +kernel
theorem d13_10 : decode prog_7_method_5_code 10 = .ok (.checkcast 18, 3) := by decide +kernel
theorem d13_13 : decode prog_7_method_5_code 13 = .ok (.astore_n 2, 1) := by decide +kernel
theorem d13_14 : decode prog_7_method_5_code 14 = .ok (.aload_n 0, 1) := by decide +kernel
theorem d13_15 : decode prog_7_method_5_code 15 = .ok (.getfield 17, 3) := by decide +kernel
theorem d13_18 : decode prog_7_method_5_code 18 = .ok (.aload_n 2, 1) := by decide +kernel
theorem d13_19 : decode prog_7_method_5_code 19 = .ok (.getfield 17, 3) := by decide +kernel
theorem d13_22 : decode prog_7_method_5_code 22 = .ok (.invokevirtual 30, 3) := by decide +kernel
theorem d13_25 : decode prog_7_method_5_code 25 = .ok (.ifCond .eq 33, 3) := by decide +kernel
theorem d13_28 : decode prog_7_method_5_code 28 = .ok (.aload_n 0, 1) := by decide +kernel
theorem d13_29 : decode prog_7_method_5_code 29 = .ok (.getfield 24, 3) := by decide +kernel
theorem d13_32 : decode prog_7_method_5_code 32 = .ok (.aload_n 2, 1) := by decide +kernel
theorem d13_33 : decode prog_7_method_5_code 33 = .ok (.getfield 24, 3) := by decide +kernel
theorem d13_36 : decode prog_7_method_5_code 36 = .ok (.invokevirtual 30, 3) := by decide +kernel
theorem d13_39 : decode prog_7_method_5_code 39 = .ok (.ifCond .eq 19, 3) := by decide +kernel
theorem d13_42 : decode prog_7_method_5_code 42 = .ok (.aload_n 0, 1) := by decide +kernel
theorem d13_43 : decode prog_7_method_5_code 43 = .ok (.getfield 26, 3) := by decide +kernel
theorem d13_46 : decode prog_7_method_5_code 46 = .ok (.aload_n 2, 1) := by decide +kernel
theorem d13_47 : decode prog_7_method_5_code 47 = .ok (.getfield 26, 3) := by decide +kernel
theorem d13_50 : decode prog_7_method_5_code 50 = .ok (.lcmp, 1) := by decide +kernel
theorem d13_51 : decode prog_7_method_5_code 51 = .ok (.ifCond .ne 7, 3) := by decide +kernel
theorem d13_54 : decode prog_7_method_5_code 54 = .ok (.iconst 1, 1) := by decide +kernel
theorem d13_55 : decode prog_7_method_5_code 55 = .ok (.goto 4, 3) := by decide +kernel
theorem d13_58 : decode prog_7_method_5_code 58 = .ok (.iconst 0, 1) := by decide +kernel
theorem d13_59 : decode prog_7_method_5_code 59 = .ok (.ireturn, 1) := by decide +kernel
theorem d14_0 : decode jdk_42_method_66_code 0 = .ok (.aload_n 0, 1) := by decide +kernel
theorem d14_1 : decode jdk_42_method_66_code 1 = .ok (.aload_n 1, 1) := by decide +kernel
theorem d14_2 : decode jdk_42_method_66_code 2 = .ok (.if_acmp .ne 5, 3) := by decide +kernel
theorem d14_5 : decode jdk_42_method_66_code 5 = .ok (.iconst 1, 1) := by decide +kernel
theorem d14_6 : decode jdk_42_method_66_code 6 = .ok (.ireturn, 1) := by decide +kernel
theorem d14_7 : decode jdk_42_method_66_code 7 = .ok (.aload_n 1, 1) := by decide +kernel
theorem d14_8 : decode jdk_42_method_66_code 8 = .ok (.instanceof 10, 3) := by decide +kernel
theorem d14_11 : decode jdk_42_method_66_code 11 = .ok (.ifCond .eq 43, 3) := by decide +kernel
theorem d14_14 : decode jdk_42_method_66_code 14 = .ok (.aload_n 1, 1) := by decide +kernel
theorem d14_15 : decode jdk_42_method_66_code 15 = .ok (.checkcast 10, 3) := by decide +kernel
theorem d14_18 : decode jdk_42_method_66_code 18 = .ok (.astore_n 2, 1) := by decide +kernel
theorem d14_19 : decode jdk_42_method_66_code 19 = .ok (.getstatic 38, 3) := by decide +kernel
theorem d14_22 : decode jdk_42_method_66_code 22 = .ok (.ifCond .eq 14, 3) := by decide +kernel
theorem d14_25 : decode jdk_42_method_66_code 25 = .ok (.aload_n 0, 1) := by decide +kernel
theorem d14_26 : decode jdk_42_method_66_code 26 = .ok (.getfield 15, 3) := by decide +kernel
theorem d14_29 : decode jdk_42_method_66_code 29 = .ok (.aload_n 2, 1) := by decide +kernel
theorem d14_30 : decode jdk_42_method_66_code 30 = .ok (.getfield 15, 3) := by decide +kernel
theorem d14_33 : decode jdk_42_method_66_code 33 = .ok (.if_icmp .ne 21, 3) := by decide +kernel
theorem d14_36 : decode jdk_42_method_66_code 36 = .ok (.aload_n 0, 1) := by decide +kernel
theorem d14_37 : decode jdk_42_method_66_code 37 = .ok (.getfield 9, 3) := by decide +kernel
theorem d14_40 : decode jdk_42_method_66_code 40 = .ok (.aload_n 2, 1) := by decide +kernel
theorem d14_41 : decode jdk_42_method_66_code 41 = .ok (.getfield 9, 3) := by decide +kernel
theorem d14_44 : decode jdk_42_method_66_code 44 = .ok (.invokestatic 541, 3) := by decide +kernel
theorem d14_47 : decode jdk_42_method_66_code 47 = .ok (.ifCond .eq 7, 3) := by decide +kernel
theorem d14_50 : decode jdk_42_method_66_code 50 = .ok (.iconst 1, 1) := by decide +kernel
theorem d14_51 : decode jdk_42_method_66_code 51 = .ok (.goto 4, 3) := by decide +kernel
theorem d14_54 : decode jdk_42_method_66_code 54 = .ok (.iconst 0, 1) := by decide +kernel
theorem d14_55 : decode jdk_42_method_66_code 55 = .ok (.ireturn, 1) := by decide +kernel
theorem d15_0 : decode jdk_43_method_13_code 0 = .ok (.aload_n 0, 1) := by decide +kernel
theorem d15_1 : decode jdk_43_method_13_code 1 = .ok (.arraylength, 1) := by decide +kernel
theorem d15_2 : decode jdk_43_method_13_code 2 = .ok (.aload_n 1, 1) := by decide +kernel
theorem d15_3 : decode jdk_43_method_13_code 3 = .ok (.arraylength, 1) := by decide +kernel
theorem d15_4 : decode jdk_43_method_13_code 4 = .ok (.if_icmp .ne 30, 3) := by decide +kernel
theorem d15_7 : decode jdk_43_method_13_code 7 = .ok (.iconst 0, 1) := by decide +kernel
theorem d15_8 : decode jdk_43_method_13_code 8 = .ok (.istore_n 2, 1) := by decide +kernel
theorem d15_9 : decode jdk_43_method_13_code 9 = .ok (.iload_n 2, 1) := by decide +kernel
theorem d15_10 : decode jdk_43_method_13_code 10 = .ok (.aload_n 0, 1) := by decide +kernel
theorem d15_11 : decode jdk_43_method_13_code 11 = .ok (.arraylength, 1) := by decide +kernel
theorem d15_12 : decode jdk_43_method_13_code 12 = .ok (.if_icmp .ge 20, 3) := by decide +kernel
theorem d15_15 : decode jdk_43_method_13_code 15 = .ok (.aload_n 0, 1) := by decide +kernel
theorem d15_16 : decode jdk_43_method_13_code 16 = .ok (.iload_n 2, 1) := by decide +kernel
theorem d15_17 : decode jdk_43_method_13_code 17 = .ok (.baload, 1) := by decide +kernel
theorem d15_18 : decode jdk_43_method_13_code 18 = .ok (.aload_n 1, 1) := by decide +kernel
theorem d15_19 : decode jdk_43_method_13_code 19 = .ok (.iload_n 2, 1) := by decide +kernel
theorem d15_20 : decode jdk_43_method_13_code 20 = .ok (.baload, 1) := by decide +kernel
theorem d15_21 : decode jdk_43_method_13_code 21 = .ok (.if_icmp .eq 5, 3) := by decide +kernel
theorem d15_24 : decode jdk_43_method_13_code 24 = .ok (.iconst 0, 1) := by decide +kernel
theorem d15_25 : decode jdk_43_method_13_code 25 = .ok (.ireturn, 1) := by decide +kernel
theorem d15_26 : decode jdk_43_method_13_code 26 = .ok (.iinc 2 1, 3) := by decide +kernel
theorem d15_29 : decode jdk_43_method_13_code 29 = .ok (.goto (-20), 3) := by decide +kernel
theorem d15_32 : decode jdk_43_method_13_code 32 = .ok (.iconst 1, 1) := by decide +kernel
theorem d15_33 : decode jdk_43_method_13_code 33 = .ok (.ireturn, 1) := by decide +kernel
theorem d15_34 : decode jdk_43_method_13_code 34 = .ok (.iconst 0, 1) := by decide +kernel
theorem d15_35 : decode jdk_43_method_13_code 35 = .ok (.ireturn, 1) := by decide +kernel
theorem own_sat {Z : State} {a0 : Array Value} (hw : ∀ d ∈ tables_1, d.before a0 Z = true) : ∀ a ∈ Bundle.stringAtoms, a.before a0 Z = true := by
  intro a ha
  simp only [Bundle.stringAtoms, List.mem_cons, List.not_mem_nil, or_false] at ha
  rcases ha with rfl | rfl | rfl | rfl | rfl | rfl | rfl
  · exact (hw _ (List.mem_of_getElem? (i := 3) rfl))
  · exact (hw _ (List.mem_of_getElem? (i := 11) rfl))
  · exact (hw _ (List.mem_of_getElem? (i := 15) rfl))
  · exact (hw _ (List.mem_of_getElem? (i := 24) rfl))
  · exact (hw _ (List.mem_of_getElem? (i := 26) rfl))
  · exact (hw _ (List.mem_of_getElem? (i := 52) rfl))
  · exact (hw _ (List.mem_of_getElem? (i := 53) rfl))
theorem ef_2 (m : MethodId) (x0 : Int32) : entryFrame m #[(.int x0)] 1 = mkF m 0 #[.val (.int x0)] [] := by first | (simp [entryFrame, mkF, argsToLocals, Value.category]; done) | rfl
set_option maxRecDepth 65536 in
set_option maxHeartbeats 40000000 in
theorem rm2 (l : Launch) (Z : State) (a0 : Array Value) (hw : ∀ d ∈ tables_1, d.before a0 Z = true) (ch : Int32) (h0 : Heap) (hch : own_B ch) :
    Con l (⟨"java/lang/StringLatin1", "canEncode", "(C)Z"⟩ : MethodName) jdk_43_method_3_code 1 (some .boolean) [] ({ frames := 0, cells := 0, slots := 0, locals := 0 } : Room) #[(.int ch)] Z h0 (fun v h L => v = some (.int (1 : Int32)) ∧ h = h0 ∧ L = []) := by
  refine Con.of (plainFor_of_name pn_0) ?_
  intro p e s m below meth c s₁ hx hZ hby hml hown hnm hret hlk X0 e0
  refine Ends.cast (ef_2 m ch) ?_
  show Ends false p e below s _ _ _ s₁ (mkF m 0 #[.val (.int ch)] [])
  refine E.iloadN (q := 1) X0 hx (hb hby d2_0) rfl ?_
  refine E.sipush (q := 4) (v := (255 : Int32)) X0 hx (hb hby d2_1) rfl ?_
  refine E.icmpN (q := 7) X0 hx (hb hby d2_4) (XT.ii_gt_f (own_B_le hch)) ?_
  refine E.iconst (q := 8) (v := (1 : Int32)) X0 hx (hb hby d2_7) rfl ?_
  refine E.goto (q := 12) X0 hx (hb hby d2_8) ?_
  exact Ends.retS X0 hx hlk hret (by simp) rfl (hb hby d2_12) (by decide) (by decide) ⟨rfl, e0, rfl⟩
theorem ef_3 (m : MethodId) (x0 : Int32) : entryFrame m #[(.int x0)] 1 = mkF m 0 #[.val (.int x0)] [] := by first | (simp [entryFrame, mkF, argsToLocals, Value.category]; done) | rfl
set_option maxRecDepth 65536 in
set_option maxHeartbeats 40000000 in
theorem rm3 (l : Launch) (Z : State) (a0 : Array Value) (hw : ∀ d ∈ tables_1, d.before a0 Z = true) (ch : Int32) (h0 : Heap) :
    Con l (⟨"java/lang/StringLatin1", "toBytes", "(C)[B"⟩ : MethodName) jdk_43_method_46_code 1 (some (.array .byte)) [] ({ frames := 0, cells := 1, slots := 1, locals := 0 } : Room) #[(.int ch)] Z h0 (fun v h L => ∃ b, v = some (.ref b) ∧ h0.size ≤ b ∧ Ok h0 h [] L ∧ Ary Z h b .byte [(.int ch.toInt8.toInt32)]) := by
  refine Con.of (plainFor_of_name pn_0) ?_
  intro p e s m below meth c s₁ hx hZ hby hml hown hnm hret hlk X0 e0
  refine Ends.cast (ef_3 m ch) ?_
  show Ends false p e below s _ _ _ s₁ (mkF m 0 #[.val (.int ch)] [])
  have O0 := Ok.refl h0 []
  refine E.iconst (q := 1) (v := (1 : Int32)) X0 hx (hb hby d3_0) rfl ?_
  refine Ends.newA X0 hx hZ (hw _ (List.mem_of_getElem? (i := 15) rfl)) e0 (hb hby d3_1) (N := 1) rfl (by decide) (by decide) (by decide) ?_
  intro T1 h1 b1 g1 X1 e1 E1 A1
  have ge_b1 : h0.size ≤ b1 := Nat.le_trans O0.le (Nat.le_of_eq g1.symm)
  have O1 := O0.ext E1
  have V1 : Ary Z h1 b1 .byte [(.int (0 : Int32))] := A1
  refine E.dup (q := 4) X1 hx (hb hby d3_3) rfl ?_
  refine E.iconst (q := 5) (v := (0 : Int32)) X1 hx (hb hby d3_4) rfl ?_
  refine E.iloadN (q := 6) X1 hx (hb hby d3_5) rfl ?_
  refine E.i2b (q := 7) X1 hx (hb hby d3_6) ?_
  refine Ends.bst X1 hx hZ e1 V1 (x' := (ch.toInt8.toInt32)) (own_nb8 _) (i := 0) rfl (show 0 < 1 from by decide) (hb hby d3_7) ?_
  intro T2 h2 X2 e2 W2 V2
  have V2 : Ary Z h2 b1 .byte [(.int (ch.toInt8.toInt32))] := V2
  have O2 := O1.wr W2 (Or.inr ge_b1)
  subst e2
  exact Ends.retA X2 hx hlk hret rfl rfl rfl (hb hby d3_8) (by decide) (by decide) ⟨_, rfl, ge_b1, O2, V2⟩
theorem ef_4 (m : MethodId) (x0 : Addr) (x1 : Addr) (x2 : Int32) : entryFrame m #[(.ref x0), (.ref x1), (.int x2)] 3 = mkF m 0 #[.val (.ref x0), .val (.ref x1), .val (.int x2)] [] := by first | (simp [entryFrame, mkF, argsToLocals, Value.category]; done) | rfl
set_option maxRecDepth 65536 in
set_option maxHeartbeats 40000000 in
theorem rm4 (l : Launch) (Z : State) (a0 : Array Value) (hw : ∀ d ∈ tables_1, d.before a0 Z = true) (oa : Addr) (va : Addr) (h0 : Heap) (E0 : Exa Z h0 oa "java/lang/String") (F_v : Fld Z h0 oa "java/lang/String" "value" "[B" .null) (F_c : Fld Z h0 oa "java/lang/String" "coder" "B" (.int (0 : Int32))) :
    Con l (⟨"java/lang/String", "<init>", "([BB)V"⟩ : MethodName) jdk_42_method_151_code 3 none [] ({ frames := 1, cells := 0, slots := 0, locals := 12 } : Room) #[(.ref oa), (.ref va), (.int (0 : Int32))] Z h0 (fun v h L => v = none ∧ Ok h0 h [oa] L ∧ Fld Z h oa "java/lang/String" "value" "[B" (.ref va) ∧ Fld Z h oa "java/lang/String" "coder" "B" (.int (0 : Int32))) := by
  refine Con.of (plainFor_of_name pn_1) ?_
  intro p e s m below meth c s₁ hx hZ hby hml hown hnm hret hlk X0 e0
  refine Ends.cast (ef_4 m oa va (0 : Int32)) ?_
  show Ends false p e below s _ _ _ s₁ (mkF m 0 #[.val (.ref oa), .val (.ref va), .val (.int (0 : Int32))] [])
  have O0 := Ok.refl h0 [oa]
  refine E.aloadN (q := 1) X0 hx (hb hby d4_0) rfl rfl ?_
  refine Ends.initO X0 hx hZ hown (hw _ (List.mem_of_getElem? (i := 20) rfl)) (hw _ (List.mem_of_getElem? (i := 21) rfl)) (hw _ (List.mem_of_getElem? (i := 22) rfl)) e0 (by rw [hml]; rfl) (hb hby d4_1) (by decide) (W := 0) (Nat.le_of_eq rfl) (by decide) ?_
  intro T3 X3 e3
  refine E.aloadN (q := 5) X3 hx (hb hby d4_4) rfl rfl ?_
  refine E.aloadN (q := 6) X3 hx (hb hby d4_5) rfl rfl ?_
  refine Ends.putF X3 hx hZ hown (host := "") (Or.inl (hw _ (List.mem_of_getElem? (i := 23) rfl))) Via.refl e3 F_v E0 (Or.inr ⟨(hw _ (List.mem_of_getElem? (i := 24) rfl)), rfl, hnm⟩) (hw _ (List.mem_of_getElem? (i := 11) rfl)) (ty := (.array .byte)) (by decide) rfl rfl (hb hby d4_6) ?_
  intro T4 h4 X4 e4 W4 Fw4
  have O4 := O0.wr W4 (Or.inl (List.mem_of_getElem? (i := 0) rfl))
  refine E.aloadN (q := 10) X4 hx (hb hby d4_9) rfl rfl ?_
  refine E.iloadN (q := 11) X4 hx (hb hby d4_10) rfl ?_
  have f5 := F_c.other W4 (Or.inr (slot_ne (Or.inr (hw _ (List.mem_of_getElem? (i := 26) rfl))) (Or.inr (hw _ (List.mem_of_getElem? (i := 24) rfl))) (by decide) (t := .byte) (t' := (.array .byte)) (by decide) (by decide)))
  have f6 := E0.wr W4
  refine Ends.putN X4 hx hZ hown (hw _ (List.mem_of_getElem? (i := 25) rfl)) Via.refl e4 f5 f6 (Or.inr ⟨(hw _ (List.mem_of_getElem? (i := 26) rfl)), rfl, hnm⟩) (hw _ (List.mem_of_getElem? (i := 11) rfl)) (ty := .byte) (v' := .int (0 : Int32)) (by decide) rfl (by decide) (hb hby d4_11) ?_
  intro T7 h7 X7 e7 W7 Fw7
  have O7 := O4.wr W7 (Or.inl (List.mem_of_getElem? (i := 0) rfl))
  have f8 := Fw4.other W7 (Or.inr (slot_ne (Or.inr (hw _ (List.mem_of_getElem? (i := 24) rfl))) (Or.inr (hw _ (List.mem_of_getElem? (i := 26) rfl))) (by decide) (t := (.array .byte)) (t' := .byte) (by decide) (by decide)))
  subst e7
  exact Ends.retV X7 hx hlk hret (hb hby d4_14) (by decide) (by decide) ⟨rfl, O7, f8, Fw7⟩
theorem ef_1 (m : MethodId) (x0 : Int32) : entryFrame m #[(.int x0)] 1 = mkF m 0 #[.val (.int x0)] [] := by first | (simp [entryFrame, mkF, argsToLocals, Value.category]; done) | rfl
set_option maxRecDepth 65536 in
set_option maxHeartbeats 40000000 in
theorem rm1 (l : Launch) (Z : State) (a0 : Array Value) (hw : ∀ d ∈ tables_1, d.before a0 Z = true) (ch : Int32) (h0 : Heap) (hch : own_B ch) (cs : Int32) (hcs : ¬ cs = (0 : Int32)) (S0 : Sta Z h0 "java/lang/String" "COMPACT_STRINGS" "Z" (.int cs)) :
    Con l (⟨"java/lang/String", "valueOf", "(C)Ljava/lang/String;"⟩ : MethodName) jdk_42_method_139_code 1 (some (.object "java/lang/String")) [] ({ frames := 2, cells := 2, slots := 5, locals := 32 } : Room) #[(.int ch)] Z h0 (fun v h L => ∃ a V, v = some (.ref a) ∧ h0.size ≤ a ∧ h0.size ≤ V ∧ a ≠ V ∧ Ok h0 h [] L ∧ Exa Z h a "java/lang/String" ∧ Fld Z h a "java/lang/String" "value" "[B" (.ref V) ∧ Fld Z h a "java/lang/String" "coder" "B" (.int (0 : Int32)) ∧ Ary Z h V .byte [(.int ch.toInt8.toInt32)]) := by
  refine Con.of (plainFor_of_name pn_1) ?_
  intro p e s m below meth c s₁ hx hZ hby hml hown hnm hret hlk X0 e0
  refine Ends.cast (ef_1 m ch) ?_
  show Ends false p e below s _ _ _ s₁ (mkF m 0 #[.val (.int ch)] [])
  have O0 := Ok.refl h0 []
  refine Ends.getS X0 hx hZ hown (host := "") (Or.inl (hw _ (List.mem_of_getElem? (i := 5) rfl))) Via.refl e0 (own_sta_keep S0 O0.1 own_ns0) (hb hby d1_0) ?_
  intro T9 X9 e9
  refine E.ifN (q := 6) X9 hx (hb hby d1_3) (XT.i0_eq_f hcs) ?_
  refine E.iloadN (q := 7) X9 hx (hb hby d1_6) rfl ?_
  refine Ends.callS X9 hx hZ hown (hw _ (List.mem_of_getElem? (i := 6) rfl)) (hw _ (List.mem_of_getElem? (i := 7) rfl)) (hw _ (List.mem_of_getElem? (i := 8) rfl)) (hw _ (List.mem_of_getElem? (i := 9) rfl)) (by decide) (argsL := [(.int ch)]) (rest := []) e9 (rm2 l Z a0 hw ch _ hch) (W := 0) (by decide) (by decide) (by rw [hml]; rfl) (lenOf pd_0 rfl) (Nat.le_of_eq rfl) (hb hby d1_7) (by decide) (by decide) rfl ?_
  rintro T10 v10 L10 X10 ⟨rfl, e10, rfl⟩
  rw [List.append_nil] at X10
  show Ends false p e below s _ _ _ T10 (mkF m 10 #[.val (.int ch)] [(.int (1 : Int32))])
  refine E.ifN (q := 13) X10 hx (hb hby d1_10) (XT.i0_eq_f (by decide)) ?_
  refine Ends.newC X10 hx hZ hown (hw _ (List.mem_of_getElem? (i := 10) rfl)) (hw _ (List.mem_of_getElem? (i := 11) rfl)) (hw _ (List.mem_of_getElem? (i := 3) rfl)) e10 (hb hby d1_13) (by decide) (by decide) ?_
  intro T11 h11 b11 g11 X11 e11 E11 A11 D11
  have ge_b11 : h0.size ≤ b11 := Nat.le_trans O0.le (Nat.le_of_eq g11.symm)
  have O11 := O0.ext E11
  have F11_value : Fld Z h11 b11 "java/lang/String" "value" "[B" .null := D11 (Or.inr (hw _ (List.mem_of_getElem? (i := 24) rfl))) (ty := (.array .byte)) (by decide)
  have F11_coder : Fld Z h11 b11 "java/lang/String" "coder" "B" (.int (0 : Int32)) := D11 (Or.inr (hw _ (List.mem_of_getElem? (i := 26) rfl))) (ty := .byte) (by decide)
  refine E.dup (q := 17) X11 hx (hb hby d1_16) rfl ?_
  refine E.iloadN (q := 18) X11 hx (hb hby d1_17) rfl ?_
  refine Ends.callS X11 hx hZ hown (hw _ (List.mem_of_getElem? (i := 12) rfl)) (hw _ (List.mem_of_getElem? (i := 13) rfl)) (hw _ (List.mem_of_getElem? (i := 8) rfl)) (hw _ (List.mem_of_getElem? (i := 14) rfl)) (by decide) (argsL := [(.int ch)]) (rest := [(.ref b11), (.ref b11)]) e11 (rm3 l Z a0 hw ch _) (W := 2) (by decide) (by decide) (by rw [hml]; rfl) (lenOf pd_1 rfl) (Nat.le_of_eq rfl) (hb hby d1_18) (by decide) (by decide) rfl ?_
  rintro T12 v12 L12 X12 ⟨b12, rfl, ge_b12, hO12, V12⟩
  have e12 : T12.heap = T12.heap := rfl
  have O12 := O11.call hO12 all0
  show Ends false p e below s _ _ _ T12 (mkF m 21 #[.val (.int ch)] [(.ref b12), (.ref b11), (.ref b11)])
  refine E.iconst (q := 22) (v := (0 : Int32)) X12 hx (hb hby d1_21) rfl ?_
  have f13 := A11.keep hO12.1
  have f14 := F11_value.keep hO12.1 nin0
  have f15 := F11_coder.keep hO12.1 nin0
  have nn : b11 ≠ b12 := (Nat.ne_of_lt (Nat.lt_of_lt_of_le A11.lt ge_b12))
  have gv : h0.size ≤ b12 := Nat.le_trans O11.le ge_b12
  refine Ends.callI X12 hx hZ hown (hw _ (List.mem_of_getElem? (i := 16) rfl)) (hw _ (List.mem_of_getElem? (i := 17) rfl)) (hw _ (List.mem_of_getElem? (i := 3) rfl)) (hw _ (List.mem_of_getElem? (i := 19) rfl)) rfl (by decide) (argsL := [(.ref b12), (.int (0 : Int32))]) (rest := [(.ref b11)]) e12 (rm4 l Z a0 hw b11 b12 _ f13 f14 f15) (W := 1) (by decide) (by decide) (by rw [hml]; rfl) (lenOf pd_2 rfl) (Nat.le_of_eq rfl) (hb hby d1_22) (by decide) (by decide) rfl ?_
  rintro T16 v16 L16 X16 ⟨rfl, hO16, Fv16, Fc16⟩
  have e16 : T16.heap = T16.heap := rfl
  have O16 := O12.call hO16 (allS (Or.inr ge_b11) all0)
  show Ends false p e below s _ _ _ T16 (mkF m 25 #[.val (.int ch)] [(.ref b11)])
  have f17 := f13.keep hO16.1
  have f18 := V12.keep hO16.1 (ninS (Ne.symm nn) nin0)
  exact Ends.retA X16 hx hlk hret rfl rfl rfl (hb hby d1_25) (by decide) (by decide) ⟨_, _, rfl, ge_b11, gv, nn, O16, f17, Fv16, Fc16, f18⟩
theorem efC5_2 (m : MethodId) (x0 : Addr) (x1 : Int32) (x2 : Addr) (x3 : Int32) (x4 : Int32) : entryFrame m #[(.ref x0), (.int x1), (.ref x2), (.int x3), (.int x4)] 7 = mkF m 0 #[.val (.ref x0), .val (.int x1), .val (.ref x2), .val (.int x3), .val (.int x4), .unset, .unset] [] := by first | (simp [entryFrame, mkF, argsToLocals, Value.category]; done) | rfl
set_option maxRecDepth 65536 in
set_option maxHeartbeats 40000000 in
theorem rmC5_2 (l : Launch) (Z : State) (a0 : Array Value) (hw : ∀ d ∈ tables_1, d.before a0 Z = true) (oc : Addr) (od : Addr) (c0 c1 : Int32) (h0 : Heap) (hc0 : own_B c0) (hc1 : own_B c1) (A_c : Ary Z h0 oc .char [(.int c0), (.int c1)]) (A_d : Ary Z h0 od .byte [(.int (0 : Int32)), (.int (0 : Int32))]) (hne : oc ≠ od) :
    Con l (⟨"java/lang/StringUTF16", "compress", "([CI[BII)I"⟩ : MethodName) jdk_52_method_21_code 7 (some .int) [] ({ frames := 0, cells := 0, slots := 0, locals := 0 } : Room) #[(.ref oc), (.int (0 : Int32)), (.ref od), (.int (0 : Int32)), (.int (2 : Int32))] Z h0 (fun v h L => v = some (.int (2 : Int32)) ∧ Ok h0 h [od] L ∧ Ary Z h od .byte [(.int c0.toInt8.toInt32), (.int c1.toInt8.toInt32)]) := by
  refine Con.of (plainFor_of_name pn_2) ?_
  intro p e s m below meth c s₁ hx hZ hby hml hown hnm hret hlk X0 e0
  refine Ends.cast (efC5_2 m oc (0 : Int32) od (0 : Int32) (2 : Int32)) ?_
  show Ends false p e below s _ _ _ s₁ (mkF m 0 #[.val (.ref oc), .val (.int (0 : Int32)), .val (.ref od), .val (.int (0 : Int32)), .val (.int (2 : Int32)), .unset, .unset] [])
  have O0 := Ok.refl h0 [od]
  refine E.iconst (q := 1) (v := (0 : Int32)) X0 hx (hb hby d9_0) rfl ?_
  refine E.istore (q := 3) (l' := #[.val (.ref oc), .val (.int (0 : Int32)), .val (.ref od), .val (.int (0 : Int32)), .val (.int (2 : Int32)), .val (.int (0 : Int32)), .unset]) X0 hx (hb hby d9_1) rfl ?_
  refine E.iload (q := 5) X0 hx (hb hby d9_3) rfl ?_
  refine E.iload (q := 7) X0 hx (hb hby d9_5) rfl ?_
  refine E.icmpN (q := 10) X0 hx (hb hby d9_7) (XT.ii_ge_f (by decide)) ?_
  refine E.aloadN (q := 11) X0 hx (hb hby d9_10) rfl rfl ?_
  refine E.iloadN (q := 12) X0 hx (hb hby d9_11) rfl ?_
  refine Ends.cld X0 hx hZ e0 A_c (i := 0) rfl rfl (hb hby d9_12) ?_
  refine E.istore (q := 15) (l' := #[.val (.ref oc), .val (.int (0 : Int32)), .val (.ref od), .val (.int (0 : Int32)), .val (.int (2 : Int32)), .val (.int (0 : Int32)), .val (.int c0)]) X0 hx (hb hby d9_13) rfl ?_
  refine E.iload (q := 17) X0 hx (hb hby d9_15) rfl ?_
  refine E.sipush (q := 20) (v := (255 : Int32)) X0 hx (hb hby d9_17) rfl ?_
  refine E.icmpY (q := 26) X0 hx (hb hby d9_20) (XT.ii_le_t (own_B_le hc0)) ?_
  refine E.aloadN (q := 27) X0 hx (hb hby d9_26) rfl rfl ?_
  refine E.iloadN (q := 28) X0 hx (hb hby d9_27) rfl ?_
  refine E.iload (q := 30) X0 hx (hb hby d9_28) rfl ?_
  refine E.i2b (q := 31) X0 hx (hb hby d9_30) ?_
  refine Ends.bst X0 hx hZ e0 A_d (x' := (c0.toInt8.toInt32)) (own_nb8 _) (i := 0) rfl (show 0 < 2 from by decide) (hb hby d9_31) ?_
  intro T19 h19 X19 e19 W19 V19
  have V19 : Ary Z h19 od .byte [(.int (c0.toInt8.toInt32)), (.int (0 : Int32))] := V19
  have O19 := O0.wr W19 (Or.inl (List.mem_of_getElem? (i := 0) rfl))
  refine E.iinc (q := 35) (v := (1 : Int32)) (l' := #[.val (.ref oc), .val (.int (1 : Int32)), .val (.ref od), .val (.int (0 : Int32)), .val (.int (2 : Int32)), .val (.int (0 : Int32)), .val (.int c0)]) X19 hx (hb hby d9_32) rfl (by decide) rfl ?_
  refine E.iinc (q := 38) (v := (1 : Int32)) (l' := #[.val (.ref oc), .val (.int (1 : Int32)), .val (.ref od), .val (.int (1 : Int32)), .val (.int (2 : Int32)), .val (.int (0 : Int32)), .val (.int c0)]) X19 hx (hb hby d9_35) rfl (by decide) rfl ?_
  refine E.iinc (q := 41) (v := (1 : Int32)) (l' := #[.val (.ref oc), .val (.int (1 : Int32)), .val (.ref od), .val (.int (1 : Int32)), .val (.int (2 : Int32)), .val (.int (1 : Int32)), .val (.int c0)]) X19 hx (hb hby d9_38) rfl (by decide) rfl ?_
  refine E.goto (q := 3) X19 hx (hb hby d9_41) ?_
  refine E.iload (q := 5) X19 hx (hb hby d9_3) rfl ?_
  refine E.iload (q := 7) X19 hx (hb hby d9_5) rfl ?_
  refine E.icmpN (q := 10) X19 hx (hb hby d9_7) (XT.ii_ge_f (by decide)) ?_
  refine E.aloadN (q := 11) X19 hx (hb hby d9_10) rfl rfl ?_
  refine E.iloadN (q := 12) X19 hx (hb hby d9_11) rfl ?_
  have f20 := A_c.other W19 hne
  refine Ends.cld X19 hx hZ e19 f20 (i := 1) rfl rfl (hb hby d9_12) ?_
  refine E.istore (q := 15) (l' := #[.val (.ref oc), .val (.int (1 : Int32)), .val (.ref od), .val (.int (1 : Int32)), .val (.int (2 : Int32)), .val (.int (1 : Int32)), .val (.int c1)]) X19 hx (hb hby d9_13) rfl ?_
  refine E.iload (q := 17) X19 hx (hb hby d9_15) rfl ?_
  refine E.sipush (q := 20) (v := (255 : Int32)) X19 hx (hb hby d9_17) rfl ?_
  refine E.icmpY (q := 26) X19 hx (hb hby d9_20) (XT.ii_le_t (own_B_le hc1)) ?_
  refine E.aloadN (q := 27) X19 hx (hb hby d9_26) rfl rfl ?_
  refine E.iloadN (q := 28) X19 hx (hb hby d9_27) rfl ?_
  refine E.iload (q := 30) X19 hx (hb hby d9_28) rfl ?_
  refine E.i2b (q := 31) X19 hx (hb hby d9_30) ?_
  refine Ends.bst X19 hx hZ e19 V19 (x' := (c1.toInt8.toInt32)) (own_nb8 _) (i := 1) rfl (show 1 < 2 from by decide) (hb hby d9_31) ?_
  intro T21 h21 X21 e21 W21 V21
  have V21 : Ary Z h21 od .byte [(.int (c0.toInt8.toInt32)), (.int (c1.toInt8.toInt32))] := V21
  have O21 := O19.wr W21 (Or.inl (List.mem_of_getElem? (i := 0) rfl))
  refine E.iinc (q := 35) (v := (2 : Int32)) (l' := #[.val (.ref oc), .val (.int (2 : Int32)), .val (.ref od), .val (.int (1 : Int32)), .val (.int (2 : Int32)), .val (.int (1 : Int32)), .val (.int c1)]) X21 hx (hb hby d9_32) rfl (by decide) rfl ?_
  refine E.iinc (q := 38) (v := (2 : Int32)) (l' := #[.val (.ref oc), .val (.int (2 : Int32)), .val (.ref od), .val (.int (2 : Int32)), .val (.int (2 : Int32)), .val (.int (1 : Int32)), .val (.int c1)]) X21 hx (hb hby d9_35) rfl (by decide) rfl ?_
  refine E.iinc (q := 41) (v := (2 : Int32)) (l' := #[.val (.ref oc), .val (.int (2 : Int32)), .val (.ref od), .val (.int (2 : Int32)), .val (.int (2 : Int32)), .val (.int (2 : Int32)), .val (.int c1)]) X21 hx (hb hby d9_38) rfl (by decide) rfl ?_
  refine E.goto (q := 3) X21 hx (hb hby d9_41) ?_
  refine E.iload (q := 5) X21 hx (hb hby d9_3) rfl ?_
  refine E.iload (q := 7) X21 hx (hb hby d9_5) rfl ?_
  refine E.icmpY (q := 44) X21 hx (hb hby d9_7) (XT.ii_ge_t (by decide)) ?_
  refine E.iload (q := 46) X21 hx (hb hby d9_44) rfl ?_
  subst e21
  exact Ends.retI X21 hx hlk hret (hb hby d9_46) (by decide) (by decide) ⟨rfl, O21, V21⟩
theorem efC3_2 (m : MethodId) (x0 : Addr) (x1 : Int32) (x2 : Int32) : entryFrame m #[(.ref x0), (.int x1), (.int x2)] 6 = mkF m 0 #[.val (.ref x0), .val (.int x1), .val (.int x2), .unset, .unset, .unset] [] := by first | (simp [entryFrame, mkF, argsToLocals, Value.category]; done) | rfl
set_option maxRecDepth 65536 in
set_option maxHeartbeats 40000000 in
theorem rmC3_2 (l : Launch) (Z : State) (a0 : Array Value) (hw : ∀ d ∈ tables_1, d.before a0 Z = true) (oc : Addr) (c0 c1 : Int32) (h0 : Heap) (hc0 : own_B c0) (hc1 : own_B c1) (A_c : Ary Z h0 oc .char [(.int c0), (.int c1)]) :
    Con l (⟨"java/lang/StringUTF16", "compress", "([CII)[B"⟩ : MethodName) jdk_52_method_16_code 6 (some (.array .byte)) [] ({ frames := 1, cells := 1, slots := 2, locals := 24 } : Room) #[(.ref oc), (.int (0 : Int32)), (.int (2 : Int32))] Z h0 (fun v h L => ∃ b, v = some (.ref b) ∧ h0.size ≤ b ∧ Ok h0 h [] L ∧ Ary Z h b .byte [(.int c0.toInt8.toInt32), (.int c1.toInt8.toInt32)]) := by
  refine Con.of (plainFor_of_name pn_2) ?_
  intro p e s m below meth c s₁ hx hZ hby hml hown hnm hret hlk X0 e0
  refine Ends.cast (efC3_2 m oc (0 : Int32) (2 : Int32)) ?_
  show Ends false p e below s _ _ _ s₁ (mkF m 0 #[.val (.ref oc), .val (.int (0 : Int32)), .val (.int (2 : Int32)), .unset, .unset, .unset] [])
  have O0 := Ok.refl h0 []
  refine E.iloadN (q := 1) X0 hx (hb hby d8_0) rfl ?_
  refine Ends.newA X0 hx hZ (hw _ (List.mem_of_getElem? (i := 15) rfl)) e0 (hb hby d8_1) (N := 2) rfl (by decide) (by decide) (by decide) ?_
  intro T22 h22 b22 g22 X22 e22 E22 A22
  have ge_b22 : h0.size ≤ b22 := Nat.le_trans O0.le (Nat.le_of_eq g22.symm)
  have O22 := O0.ext E22
  have V22 : Ary Z h22 b22 .byte [(.int (0 : Int32)), (.int (0 : Int32))] := A22
  refine E.astoreN (q := 4) (l' := #[.val (.ref oc), .val (.int (0 : Int32)), .val (.int (2 : Int32)), .val (.ref b22), .unset, .unset]) X22 hx (hb hby d8_3) rfl rfl ?_
  refine E.aloadN (q := 5) X22 hx (hb hby d8_4) rfl rfl ?_
  refine E.iloadN (q := 6) X22 hx (hb hby d8_5) rfl ?_
  refine E.aloadN (q := 7) X22 hx (hb hby d8_6) rfl rfl ?_
  refine E.iconst (q := 8) (v := (0 : Int32)) X22 hx (hb hby d8_7) rfl ?_
  refine E.iloadN (q := 9) X22 hx (hb hby d8_8) rfl ?_
  have f23 := A_c.ext E22
  refine Ends.callS X22 hx hZ hown (hw _ (List.mem_of_getElem? (i := 38) rfl)) (hw _ (List.mem_of_getElem? (i := 39) rfl)) (hw _ (List.mem_of_getElem? (i := 36) rfl)) (hw _ (List.mem_of_getElem? (i := 40) rfl)) (by decide) (argsL := [(.ref oc), (.int (0 : Int32)), (.ref b22), (.int (0 : Int32)), (.int (2 : Int32))]) (rest := []) e22 (rmC5_2 l Z a0 hw oc b22 c0 c1 _ hc0 hc1 f23 V22 (Nat.ne_of_lt (Nat.lt_of_lt_of_eq A_c.lt g22.symm))) (W := 0) (by decide) (by decide) (by rw [hml]; rfl) (lenOf pd_3 rfl) (Nat.le_of_eq rfl) (hb hby d8_9) (by decide) (by decide) rfl ?_
  rintro T24 v24 L24 X24 ⟨rfl, hO24, V24⟩
  have e24 : T24.heap = T24.heap := rfl
  have O24 := O22.call hO24 (allS (Or.inr ge_b22) all0)
  show Ends false p e below s _ _ _ T24 (mkF m 12 #[.val (.ref oc), .val (.int (0 : Int32)), .val (.int (2 : Int32)), .val (.ref b22), .unset, .unset] [(.int (2 : Int32))])
  refine E.istore (q := 14) (l' := #[.val (.ref oc), .val (.int (0 : Int32)), .val (.int (2 : Int32)), .val (.ref b22), .val (.int (2 : Int32)), .unset]) X24 hx (hb hby d8_12) rfl ?_
  refine E.iload (q := 16) X24 hx (hb hby d8_14) rfl ?_
  refine E.iloadN (q := 17) X24 hx (hb hby d8_16) rfl ?_
  refine E.icmpY (q := 57) X24 hx (hb hby d8_17) (XT.ii_eq_t (by decide)) ?_
  refine E.aloadN (q := 58) X24 hx (hb hby d8_57) rfl rfl ?_
  exact Ends.retA X24 hx hlk hret rfl rfl rfl (hb hby d8_58) (by decide) (by decide) ⟨_, rfl, ge_b22, O24, V24⟩
theorem efCL_2 (m : MethodId) (x0 : Addr) (x1 : Int32) : entryFrame m #[(.ref x0), (.int x1)] 2 = mkF m 0 #[.val (.ref x0), .val (.int x1)] [] := by first | (simp [entryFrame, mkF, argsToLocals, Value.category]; done) | rfl
set_option maxRecDepth 65536 in
set_option maxHeartbeats 40000000 in
theorem rmCL_2 (l : Launch) (Z : State) (a0 : Array Value) (hw : ∀ d ∈ tables_1, d.before a0 Z = true) (od : Addr) (vs : List Value) (h0 : Heap) (A_d : Ary Z h0 od .byte vs) (hl : vs.length = 2) :
    Con l (⟨"java/lang/StringUTF16", "coderFromArrayLen", "([BI)B"⟩ : MethodName) jdk_52_method_15_code 2 (some .byte) [] ({ frames := 0, cells := 0, slots := 0, locals := 0 } : Room) #[(.ref od), (.int (2 : Int32))] Z h0 (fun v h L => v = some (.int (0 : Int32)) ∧ h = h0 ∧ L = []) := by
  refine Con.of (plainFor_of_name pn_2) ?_
  intro p e s m below meth c s₁ hx hZ hby hml hown hnm hret hlk X0 e0
  refine Ends.cast (efCL_2 m od (2 : Int32)) ?_
  show Ends false p e below s _ _ _ s₁ (mkF m 0 #[.val (.ref od), .val (.int (2 : Int32))] [])
  refine E.iloadN (q := 1) X0 hx (hb hby d10_0) rfl ?_
  refine E.aloadN (q := 2) X0 hx (hb hby d10_1) rfl rfl ?_
  refine Ends.alen X0 hx hZ e0 A_d (hb hby d10_2) (n := (2 : Int32)) (by rw [hl]; rfl) ?_
  refine E.isub (q := 4) X0 hx (hb hby d10_3) ?_
  rw [show ((2 : Int32) - (2 : Int32)) = (0 : Int32) from by decide]
  refine E.bipush (q := 6) (v := (31 : Int32)) X0 hx (hb hby d10_4) rfl ?_
  refine E.iushr (q := 7) X0 hx (hb hby d10_6) ?_
  rw [show (((0 : Int32).toUInt32 >>> ((31 : Int32) &&& 31).toUInt32).toInt32) = (0 : Int32) from by decide]
  refine E.i2b (q := 8) X0 hx (hb hby d10_7) ?_
  exact Ends.retS X0 hx hlk hret (by simp) rfl (hb hby d10_8) (by decide) (by decide) ⟨by decide, e0, rfl⟩
theorem efI4_2 (m : MethodId) (x0 : Addr) (x1 : Addr) (x2 : Int32) (x3 : Int32) : entryFrame m #[(.ref x0), (.ref x1), (.int x2), (.int x3), .null] 6 = mkF m 0 #[.val (.ref x0), .val (.ref x1), .val (.int x2), .val (.int x3), .val .null, .unset] [] := by first | (simp [entryFrame, mkF, argsToLocals, Value.category]; done) | rfl
set_option maxRecDepth 65536 in
set_option maxHeartbeats 40000000 in
theorem rmI4_2 (l : Launch) (Z : State) (a0 : Array Value) (hw : ∀ d ∈ tables_1, d.before a0 Z = true) (oa : Addr) (oc : Addr) (c0 c1 : Int32) (h0 : Heap) (hc0 : own_B c0) (hc1 : own_B c1) (E0 : Exa Z h0 oa "java/lang/String") (F_v : Fld Z h0 oa "java/lang/String" "value" "[B" .null) (F_c : Fld Z h0 oa "java/lang/String" "coder" "B" (.int (0 : Int32))) (A_c : Ary Z h0 oc .char [(.int c0), (.int c1)]) (hne : oc ≠ oa) (cs : Int32) (hcs : ¬ cs = (0 : Int32)) (S0 : Sta Z h0 "java/lang/String" "COMPACT_STRINGS" "Z" (.int cs)) :
    Con l (⟨"java/lang/String", "<init>", "([CIILjava/lang/Void;)V"⟩ : MethodName) jdk_42_method_149_code 6 none [] ({ frames := 2, cells := 1, slots := 2, locals := 48 } : Room) #[(.ref oa), (.ref oc), (.int (0 : Int32)), (.int (2 : Int32)), .null] Z h0 (fun v h L => v = none ∧ ∃ V, h0.size ≤ V ∧ Ok h0 h [oa] L ∧ Fld Z h oa "java/lang/String" "value" "[B" (.ref V) ∧ Fld Z h oa "java/lang/String" "coder" "B" (.int (0 : Int32)) ∧ Ary Z h V .byte [(.int c0.toInt8.toInt32), (.int c1.toInt8.toInt32)]) := by
  refine Con.of (plainFor_of_name pn_1) ?_
  intro p e s m below meth c s₁ hx hZ hby hml hown hnm hret hlk X0 e0
  refine Ends.cast (efI4_2 m oa oc (0 : Int32) (2 : Int32)) ?_
  show Ends false p e below s _ _ _ s₁ (mkF m 0 #[.val (.ref oa), .val (.ref oc), .val (.int (0 : Int32)), .val (.int (2 : Int32)), .val .null, .unset] [])
  have O0 := Ok.refl h0 [oa]
  refine E.aloadN (q := 1) X0 hx (hb hby d7_0) rfl rfl ?_
  refine Ends.initO X0 hx hZ hown (hw _ (List.mem_of_getElem? (i := 20) rfl)) (hw _ (List.mem_of_getElem? (i := 21) rfl)) (hw _ (List.mem_of_getElem? (i := 22) rfl)) e0 (by rw [hml]; rfl) (hb hby d7_1) (by decide) (W := 0) (Nat.le_of_eq rfl) (by decide) ?_
  intro T25 X25 e25
  refine E.iloadN (q := 5) X25 hx (hb hby d7_4) rfl ?_
  refine E.ifY (q := 27) X25 hx (hb hby d7_5) (XT.i0_ne_t (by decide)) ?_
  refine Ends.getS X25 hx hZ hown (host := "") (Or.inl (hw _ (List.mem_of_getElem? (i := 5) rfl))) Via.refl e25 (own_sta_keep S0 O0.1 (own_ns E0)) (hb hby d7_27) ?_
  intro T26 X26 e26
  refine E.ifN (q := 33) X26 hx (hb hby d7_30) (XT.i0_eq_f hcs) ?_
  refine E.aloadN (q := 34) X26 hx (hb hby d7_33) rfl rfl ?_
  refine E.iloadN (q := 35) X26 hx (hb hby d7_34) rfl ?_
  refine E.iloadN (q := 36) X26 hx (hb hby d7_35) rfl ?_
  refine Ends.callS X26 hx hZ hown (hw _ (List.mem_of_getElem? (i := 34) rfl)) (hw _ (List.mem_of_getElem? (i := 35) rfl)) (hw _ (List.mem_of_getElem? (i := 36) rfl)) (hw _ (List.mem_of_getElem? (i := 37) rfl)) (by decide) (argsL := [(.ref oc), (.int (0 : Int32)), (.int (2 : Int32))]) (rest := []) e26 (rmC3_2 l Z a0 hw oc c0 c1 _ hc0 hc1 A_c) (W := 0) (by decide) (by decide) (by rw [hml]; rfl) (lenOf pd_4 rfl) (Nat.le_of_eq rfl) (hb hby d7_36) (by decide) (by decide) rfl ?_
  rintro T27 v27 L27 X27 ⟨b27, rfl, ge_b27, hO27, V27⟩
  have e27 : T27.heap = T27.heap := rfl
  have O27 := O0.call hO27 all0
  show Ends false p e below s _ _ _ T27 (mkF m 39 #[.val (.ref oa), .val (.ref oc), .val (.int (0 : Int32)), .val (.int (2 : Int32)), .val .null, .unset] [(.ref b27)])
  have gv : h0.size ≤ b27 := Nat.le_trans O0.le ge_b27
  refine E.astore (q := 41) (l' := #[.val (.ref oa), .val (.ref oc), .val (.int (0 : Int32)), .val (.int (2 : Int32)), .val .null, .val (.ref b27)]) X27 hx (hb hby d7_39) rfl rfl ?_
  refine E.aloadN (q := 42) X27 hx (hb hby d7_41) rfl rfl ?_
  refine E.aload (q := 44) X27 hx (hb hby d7_42) rfl rfl ?_
  refine E.iloadN (q := 45) X27 hx (hb hby d7_44) rfl ?_
  refine Ends.callS X27 hx hZ hown (hw _ (List.mem_of_getElem? (i := 41) rfl)) (hw _ (List.mem_of_getElem? (i := 42) rfl)) (hw _ (List.mem_of_getElem? (i := 36) rfl)) (hw _ (List.mem_of_getElem? (i := 43) rfl)) (by decide) (argsL := [(.ref b27), (.int (2 : Int32))]) (rest := [(.ref oa)]) e27 (rmCL_2 l Z a0 hw b27 _ _ V27 rfl) (W := 1) (by decide) (by decide) (by rw [hml]; rfl) (lenOf pd_5 rfl) (Nat.le_of_eq rfl) (hb hby d7_45) (by decide) (by decide) rfl ?_
  rintro T28 v28 L28 X28 ⟨rfl, e28, rfl⟩
  rw [List.append_nil] at X28
  show Ends false p e below s _ _ _ T28 (mkF m 48 #[.val (.ref oa), .val (.ref oc), .val (.int (0 : Int32)), .val (.int (2 : Int32)), .val .null, .val (.ref b27)] [(.int (0 : Int32)), (.ref oa)])
  have f29 := F_c.keep hO27.1 nin0
  have f30 := E0.keep hO27.1
  refine Ends.putN X28 hx hZ hown (hw _ (List.mem_of_getElem? (i := 25) rfl)) Via.refl e28 f29 f30 (Or.inr ⟨(hw _ (List.mem_of_getElem? (i := 26) rfl)), rfl, hnm⟩) (hw _ (List.mem_of_getElem? (i := 11) rfl)) (ty := .byte) (v' := .int (0 : Int32)) (by decide) rfl (by decide) (hb hby d7_48) ?_
  intro T31 h31 X31 e31 W31 Fw31
  have O31 := O27.wr W31 (Or.inl (List.mem_of_getElem? (i := 0) rfl))
  refine E.aloadN (q := 52) X31 hx (hb hby d7_51) rfl rfl ?_
  refine E.aload (q := 54) X31 hx (hb hby d7_52) rfl rfl ?_
  have f32 := F_v.keep hO27.1 nin0
  have f33 := f32.other W31 (Or.inr (slot_ne (Or.inr (hw _ (List.mem_of_getElem? (i := 24) rfl))) (Or.inr (hw _ (List.mem_of_getElem? (i := 26) rfl))) (by decide) (t := (.array .byte)) (t' := .byte) (by decide) (by decide)))
  have f34 := f30.wr W31
  refine Ends.putF X31 hx hZ hown (host := "") (Or.inl (hw _ (List.mem_of_getElem? (i := 23) rfl))) Via.refl e31 f33 f34 (Or.inr ⟨(hw _ (List.mem_of_getElem? (i := 24) rfl)), rfl, hnm⟩) (hw _ (List.mem_of_getElem? (i := 11) rfl)) (ty := (.array .byte)) (by decide) rfl rfl (hb hby d7_54) ?_
  intro T35 h35 X35 e35 W35 Fw35
  have O35 := O31.wr W35 (Or.inl (List.mem_of_getElem? (i := 0) rfl))
  have f36 := Fw31.other W35 (Or.inr (slot_ne (Or.inr (hw _ (List.mem_of_getElem? (i := 26) rfl))) (Or.inr (hw _ (List.mem_of_getElem? (i := 24) rfl))) (by decide) (t := .byte) (t' := (.array .byte)) (by decide) (by decide)))
  have f37 := V27.other W31 (Ne.symm (Nat.ne_of_lt (Nat.lt_of_lt_of_le E0.lt ge_b27)))
  have f38 := f37.other W35 (Ne.symm (Nat.ne_of_lt (Nat.lt_of_lt_of_le E0.lt ge_b27)))
  subst e35
  exact Ends.retV X35 hx hlk hret (hb hby d7_57) (by decide) (by decide) ⟨rfl, _, gv, O35, Fw35, f36, f38⟩
theorem efI1_2 (m : MethodId) (x0 : Addr) (x1 : Addr) : entryFrame m #[(.ref x0), (.ref x1)] 2 = mkF m 0 #[.val (.ref x0), .val (.ref x1)] [] := by first | (simp [entryFrame, mkF, argsToLocals, Value.category]; done) | rfl
set_option maxRecDepth 65536 in
set_option maxHeartbeats 40000000 in
theorem rmI1_2 (l : Launch) (Z : State) (a0 : Array Value) (hw : ∀ d ∈ tables_1, d.before a0 Z = true) (oa : Addr) (oc : Addr) (c0 c1 : Int32) (h0 : Heap) (hc0 : own_B c0) (hc1 : own_B c1) (E0 : Exa Z h0 oa "java/lang/String") (F_v : Fld Z h0 oa "java/lang/String" "value" "[B" .null) (F_c : Fld Z h0 oa "java/lang/String" "coder" "B" (.int (0 : Int32))) (A_c : Ary Z h0 oc .char [(.int c0), (.int c1)]) (hne : oc ≠ oa) (cs : Int32) (hcs : ¬ cs = (0 : Int32)) (S0 : Sta Z h0 "java/lang/String" "COMPACT_STRINGS" "Z" (.int cs)) :
    Con l (⟨"java/lang/String", "<init>", "([C)V"⟩ : MethodName) jdk_42_method_3_code 2 none [] ({ frames := 3, cells := 1, slots := 2, locals := 72 } : Room) #[(.ref oa), (.ref oc)] Z h0 (fun v h L => v = none ∧ ∃ V, h0.size ≤ V ∧ Ok h0 h [oa] L ∧ Fld Z h oa "java/lang/String" "value" "[B" (.ref V) ∧ Fld Z h oa "java/lang/String" "coder" "B" (.int (0 : Int32)) ∧ Ary Z h V .byte [(.int c0.toInt8.toInt32), (.int c1.toInt8.toInt32)]) := by
  refine Con.of (plainFor_of_name pn_1) ?_
  intro p e s m below meth c s₁ hx hZ hby hml hown hnm hret hlk X0 e0
  refine Ends.cast (efI1_2 m oa oc) ?_
  show Ends false p e below s _ _ _ s₁ (mkF m 0 #[.val (.ref oa), .val (.ref oc)] [])
  have O0 := Ok.refl h0 [oa]
  refine E.aloadN (q := 1) X0 hx (hb hby d6_0) rfl rfl ?_
  refine E.aloadN (q := 2) X0 hx (hb hby d6_1) rfl rfl ?_
  refine E.iconst (q := 3) (v := (0 : Int32)) X0 hx (hb hby d6_2) rfl ?_
  refine E.aloadN (q := 4) X0 hx (hb hby d6_3) rfl rfl ?_
  refine Ends.alen X0 hx hZ e0 A_c (hb hby d6_4) (n := (2 : Int32)) rfl ?_
  refine E.aconstNull (q := 6) X0 hx (hb hby d6_5) ?_
  refine Ends.callI X0 hx hZ hown (hw _ (List.mem_of_getElem? (i := 31) rfl)) (hw _ (List.mem_of_getElem? (i := 32) rfl)) (hw _ (List.mem_of_getElem? (i := 3) rfl)) (hw _ (List.mem_of_getElem? (i := 33) rfl)) rfl (by decide) (argsL := [(.ref oc), (.int (0 : Int32)), (.int (2 : Int32)), .null]) (rest := []) e0 (rmI4_2 l Z a0 hw oa oc c0 c1 _ hc0 hc1 E0 F_v F_c A_c hne cs hcs S0) (W := 0) (by decide) (by decide) (by rw [hml]; rfl) (lenOf pd_6 rfl) (Nat.le_of_eq rfl) (hb hby d6_6) (by decide) (by decide) rfl ?_
  rintro T39 v39 L39 X39 ⟨rfl, V39, gV39, hO39, a39, b39, d39⟩
  have e39 : T39.heap = T39.heap := rfl
  have O39 := O0.call hO39 (allS (Or.inl (List.mem_of_getElem? (i := 0) rfl)) all0)
  show Ends false p e below s _ _ _ T39 (mkF m 9 #[.val (.ref oa), .val (.ref oc)] [])
  exact Ends.retV X39 hx hlk hret (hb hby d6_9) (by decide) (by decide) ⟨rfl, _, gV39, hO39, a39, b39, d39⟩
theorem ef_15 (m : MethodId) (x0 : Addr) (x1 : Addr) : entryFrame m #[(.ref x0), (.ref x1)] 3 = mkF m 0 #[.val (.ref x0), .val (.ref x1), .unset] [] := by first | (simp [entryFrame, mkF, argsToLocals, Value.category]; done) | rfl
set_option maxRecDepth 65536 in
set_option maxHeartbeats 40000000 in
theorem rm15 (l : Launch) (Z : State) (a0 : Array Value) (hw : ∀ d ∈ tables_1, d.before a0 Z = true) (oa : Addr) (ob : Addr) (xs ys : List Int32) (h0 : Heap) (A_x : Ary Z h0 oa .byte (xs.map Value.int)) (A_y : Ary Z h0 ob .byte (ys.map Value.int)) :
    Con l (⟨"java/lang/StringLatin1", "equals", "([B[B)Z"⟩ : MethodName) jdk_43_method_13_code 3 (some .boolean) [] ({ frames := 0, cells := 0, slots := 0, locals := 0 } : Room) #[(.ref oa), (.ref ob)] Z h0 (fun v h L => v = some (.int (if xs = ys then (1 : Int32) else 0)) ∧ h = h0 ∧ L = []) := by
  refine Con.of (plainFor_of_name pn_0) ?_
  intro p e s m below meth c s₁ hx hZ hby hml hown hnm hret hlk X0 e0
  refine Ends.cast (ef_15 m oa ob) ?_
  show Ends false p e below s _ _ _ s₁ (mkF m 0 #[.val (.ref oa), .val (.ref ob), .unset] [])
  have lx : xs.length < 2 ^ 31 := by have := A_x.len; rwa [List.length_map] at this
  have ly : ys.length < 2 ^ 31 := by have := A_y.len; rwa [List.length_map] at this
  refine E.aloadN (q := 1) X0 hx (hb hby d15_0) rfl rfl ?_
  refine Ends.alen X0 hx hZ e0 A_x (hb hby d15_1) (n := (Int32.ofNat xs.length)) (by rw [List.length_map]) ?_
  refine E.aloadN (q := 3) X0 hx (hb hby d15_2) rfl rfl ?_
  refine Ends.alen X0 hx hZ e0 A_y (hb hby d15_3) (n := (Int32.ofNat ys.length)) (by rw [List.length_map]) ?_
  by_cases hl : (Int32.ofNat xs.length) = (Int32.ofNat ys.length)
  · refine E.icmpN (q := 7) X0 hx (hb hby d15_4) (XT.ii_ne_f hl) ?_
    have hl' : xs.length = ys.length := by have := congrArg Int32.toInt hl; rw [own_ofNat lx, own_ofNat ly] at this; omega
    refine E.iconst (q := 8) (v := (0 : Int32)) X0 hx (hb hby d15_7) rfl ?_
    refine E.istoreN (q := 9) (l' := #[.val (.ref oa), .val (.ref ob), .val (.int (0 : Int32))]) X0 hx (hb hby d15_8) rfl ?_
    have J : ∀ n i, i + n = xs.length → xs.take i = ys.take i → Ends false p e below s (fun v h L => v = some (.int (if xs = ys then (1 : Int32) else 0)) ∧ h = h0 ∧ L = []) ({ frames := 0, cells := 0, slots := 0, locals := 0 } : Room).cells ({ frames := 0, cells := 0, slots := 0, locals := 0 } : Room).slots s₁ (mkF m 9 #[.val (.ref oa), .val (.ref ob), .val (.int (Int32.ofNat i))] []) := by
      intro n
      induction n with
      | zero =>
        intro i hi ht
        refine E.iloadN (q := 10) X0 hx (hb hby d15_9) rfl ?_
        refine E.aloadN (q := 11) X0 hx (hb hby d15_10) rfl rfl ?_
        refine Ends.alen X0 hx hZ e0 A_x (hb hby d15_11) (n := (Int32.ofNat xs.length)) (by rw [List.length_map]) ?_
        have hi' : i = xs.length := by omega
        refine E.icmpY (q := 32) X0 hx (hb hby d15_12) (XT.ii_ge_t (by rw [hi']; exact Int32.lt_irrefl)) ?_
        refine E.iconst (q := 33) (v := (1 : Int32)) X0 hx (hb hby d15_32) rfl ?_
        exact Ends.retS X0 hx hlk hret (by simp) rfl (hb hby d15_33) (by decide) (by decide) ⟨by rw [if_pos]; rw [hi'] at ht; rw [List.take_length] at ht; rw [hl', List.take_length] at ht; exact ht, e0, rfl⟩
      | succ n ih =>
        intro i hi ht
        have hix : i < xs.length := by omega
        have hiy : i < ys.length := by omega
        refine E.iloadN (q := 10) X0 hx (hb hby d15_9) rfl ?_
        refine E.aloadN (q := 11) X0 hx (hb hby d15_10) rfl rfl ?_
        refine Ends.alen X0 hx hZ e0 A_x (hb hby d15_11) (n := (Int32.ofNat xs.length)) (by rw [List.length_map]) ?_
        refine E.icmpN (q := 15) X0 hx (hb hby d15_12) (XT.ii_ge_f (by rw [Int32.lt_iff_toInt_lt, own_ofNat (by omega), own_ofNat lx]; omega)) ?_
        refine E.aloadN (q := 16) X0 hx (hb hby d15_15) rfl rfl ?_
        refine E.iloadN (q := 17) X0 hx (hb hby d15_16) rfl ?_
        refine Ends.bld X0 hx hZ e0 A_x (i := i) (v := .int (xs[i]'hix)) rfl (by rw [List.getElem?_map, List.getElem?_eq_getElem hix]; rfl) (hb hby d15_17) ?_
        show Ends false p e below s _ _ _ s₁ (mkF m 18 #[.val (.ref oa), .val (.ref ob), .val (.int (Int32.ofNat i))] [(.int (xs[i]'hix))])
        refine E.aloadN (q := 19) X0 hx (hb hby d15_18) rfl rfl ?_
        refine E.iloadN (q := 20) X0 hx (hb hby d15_19) rfl ?_
        refine Ends.bld X0 hx hZ e0 A_y (i := i) (v := .int (ys[i]'hiy)) rfl (by rw [List.getElem?_map, List.getElem?_eq_getElem hiy]; rfl) (hb hby d15_20) ?_
        show Ends false p e below s _ _ _ s₁ (mkF m 21 #[.val (.ref oa), .val (.ref ob), .val (.int (Int32.ofNat i))] [(.int (ys[i]'hiy)), (.int (xs[i]'hix))])
        by_cases hq : (xs[i]'hix) = (ys[i]'hiy)
        · refine E.icmpY (q := 26) X0 hx (hb hby d15_21) (XT.ii_eq_t hq) ?_
          refine E.iinc (q := 29) (v := ((Int32.ofNat i) + (1 : Int32))) (l' := #[.val (.ref oa), .val (.ref ob), .val (.int ((Int32.ofNat i) + (1 : Int32)))]) X0 hx (hb hby d15_26) rfl rfl rfl ?_
          refine E.goto (q := 9) X0 hx (hb hby d15_29) ?_
          rw [own_succ i]
          exact ih (i + 1) (by omega) (by rw [List.take_succ_eq_append_getElem hix, List.take_succ_eq_append_getElem hiy, ht, hq])
        · refine E.icmpN (q := 24) X0 hx (hb hby d15_21) (XT.ii_eq_f hq) ?_
          refine E.iconst (q := 25) (v := (0 : Int32)) X0 hx (hb hby d15_24) rfl ?_
          exact Ends.retS X0 hx hlk hret (by simp) rfl (hb hby d15_25) (by decide) (by decide) ⟨by rw [if_neg (fun q => hq (by subst q; rfl))], e0, rfl⟩
    exact J xs.length 0 (by omega) rfl
  · refine E.icmpY (q := 34) X0 hx (hb hby d15_4) (XT.ii_ne_t hl) ?_
    refine E.iconst (q := 35) (v := (0 : Int32)) X0 hx (hb hby d15_34) rfl ?_
    exact Ends.retS X0 hx hlk hret (by simp) rfl (hb hby d15_35) (by decide) (by decide) ⟨by rw [if_neg (fun q => hl (by rw [q]))], e0, rfl⟩
theorem ef_14 (m : MethodId) (x0 : Addr) (x1 : Addr) : entryFrame m #[(.ref x0), (.ref x1)] 3 = mkF m 0 #[.val (.ref x0), .val (.ref x1), .unset] [] := by first | (simp [entryFrame, mkF, argsToLocals, Value.category]; done) | rfl
set_option maxRecDepth 65536 in
set_option maxHeartbeats 40000000 in
theorem rm14 (l : Launch) (Z : State) (a0 : Array Value) (hw : ∀ d ∈ tables_1, d.before a0 Z = true) (oa : Addr) (ob : Addr) (Va Vb : Addr) (xs ys : List Int32) (h0 : Heap) (Ea : Exa Z h0 oa "java/lang/String") (Fva : Fld Z h0 oa "java/lang/String" "value" "[B" (.ref Va)) (Fca : Fld Z h0 oa "java/lang/String" "coder" "B" (.int (0 : Int32))) (Eb : Exa Z h0 ob "java/lang/String") (Fvb : Fld Z h0 ob "java/lang/String" "value" "[B" (.ref Vb)) (Fcb : Fld Z h0 ob "java/lang/String" "coder" "B" (.int (0 : Int32))) (A_x : Ary Z h0 Va .byte (xs.map Value.int)) (A_y : Ary Z h0 Vb .byte (ys.map Value.int)) (hne : oa ≠ ob) (cs : Int32) (hcs : ¬ cs = (0 : Int32)) (S0 : Sta Z h0 "java/lang/String" "COMPACT_STRINGS" "Z" (.int cs)) :
    Con l (⟨"java/lang/String", "equals", "(Ljava/lang/Object;)Z"⟩ : MethodName) jdk_42_method_66_code 3 (some .boolean) [] ({ frames := 1, cells := 0, slots := 0, locals := 24 } : Room) #[(.ref oa), (.ref ob)] Z h0 (fun v h L => v = some (.int (if xs = ys then (1 : Int32) else 0)) ∧ h = h0 ∧ L = []) := by
  refine Con.of (plainFor_of_name pn_1) ?_
  intro p e s m below meth c s₁ hx hZ hby hml hown hnm hret hlk X0 e0
  refine Ends.cast (ef_14 m oa ob) ?_
  show Ends false p e below s _ _ _ s₁ (mkF m 0 #[.val (.ref oa), .val (.ref ob), .unset] [])
  have O0 := Ok.refl h0 []
  refine E.aloadN (q := 1) X0 hx (hb hby d14_0) rfl rfl ?_
  refine E.aloadN (q := 2) X0 hx (hb hby d14_1) rfl rfl ?_
  refine E.acmpY (q := 7) X0 hx (hb hby d14_2) rfl rfl (Jvm.Free.XT.aa_ne_t (fun q => hne (Value.ref.inj q))) ?_
  refine E.aloadN (q := 8) X0 hx (hb hby d14_7) rfl rfl ?_
  refine Ends.instY X0 hx hZ hown (hw _ (List.mem_of_getElem? (i := 10) rfl)) e0 (Ins.self Eb) (hb hby d14_8) ?_
  intro T40 X40 e40
  refine E.ifN (q := 14) X40 hx (hb hby d14_11) (XT.i0_eq_f (by decide)) ?_
  refine E.aloadN (q := 15) X40 hx (hb hby d14_14) rfl rfl ?_
  refine Ends.castY X40 hx hZ hown (hw _ (List.mem_of_getElem? (i := 10) rfl)) e40 (Ins.self Eb) (hb hby d14_15) ?_
  intro T41 X41 e41
  refine E.astoreN (q := 19) (l' := #[.val (.ref oa), .val (.ref ob), .val (.ref ob)]) X41 hx (hb hby d14_18) rfl rfl ?_
  refine Ends.getS X41 hx hZ hown (host := "") (Or.inl (hw _ (List.mem_of_getElem? (i := 5) rfl))) Via.refl e41 (own_sta_keep S0 O0.1 own_ns0) (hb hby d14_19) ?_
  intro T42 X42 e42
  refine E.ifN (q := 25) X42 hx (hb hby d14_22) (XT.i0_eq_f hcs) ?_
  refine E.aloadN (q := 26) X42 hx (hb hby d14_25) rfl rfl ?_
  refine Ends.getF X42 hx hZ hown (host := "") (Or.inl (hw _ (List.mem_of_getElem? (i := 25) rfl))) Via.refl e42 Fca (hb hby d14_26) ?_
  intro T43 X43 e43
  refine E.aloadN (q := 30) X43 hx (hb hby d14_29) rfl rfl ?_
  refine Ends.getF X43 hx hZ hown (host := "") (Or.inl (hw _ (List.mem_of_getElem? (i := 25) rfl))) Via.refl e43 Fcb (hb hby d14_30) ?_
  intro T44 X44 e44
  refine E.icmpN (q := 36) X44 hx (hb hby d14_33) (XT.ii_ne_f (by decide)) ?_
  refine E.aloadN (q := 37) X44 hx (hb hby d14_36) rfl rfl ?_
  refine Ends.getF X44 hx hZ hown (host := "") (Or.inl (hw _ (List.mem_of_getElem? (i := 23) rfl))) Via.refl e44 Fva (hb hby d14_37) ?_
  intro T45 X45 e45
  refine E.aloadN (q := 41) X45 hx (hb hby d14_40) rfl rfl ?_
  refine Ends.getF X45 hx hZ hown (host := "") (Or.inl (hw _ (List.mem_of_getElem? (i := 23) rfl))) Via.refl e45 Fvb (hb hby d14_41) ?_
  intro T46 X46 e46
  refine Ends.callS X46 hx hZ hown (hw _ (List.mem_of_getElem? (i := 78) rfl)) (hw _ (List.mem_of_getElem? (i := 79) rfl)) (hw _ (List.mem_of_getElem? (i := 8) rfl)) (hw _ (List.mem_of_getElem? (i := 80) rfl)) (by decide) (argsL := [(.ref Va), (.ref Vb)]) (rest := []) e46 (rm15 l Z a0 hw Va Vb xs ys _ A_x A_y) (W := 0) (by decide) (by decide) (by rw [hml]; rfl) (lenOf pd_7 rfl) (Nat.le_of_eq rfl) (hb hby d14_44) (by decide) (by decide) rfl ?_
  rintro T47 v47 L47 X47 ⟨rfl, e47, rfl⟩
  rw [List.append_nil] at X47
  show Ends false p e below s _ _ _ T47 (mkF m 47 #[.val (.ref oa), .val (.ref ob), .val (.ref ob)] [(.int (if xs = ys then (1 : Int32) else 0))])
  by_cases hq : (if xs = ys then (1 : Int32) else 0) = (0 : Int32)
  · refine E.ifY (q := 54) X47 hx (hb hby d14_47) (XT.i0_eq_t hq) ?_
    refine E.iconst (q := 55) (v := (0 : Int32)) X47 hx (hb hby d14_54) rfl ?_
    exact Ends.retS X47 hx hlk hret (by simp) rfl (hb hby d14_55) (by decide) (by decide) ⟨by rw [if_neg (fun q => by rw [if_pos q] at hq; exact absurd hq (by decide))], e47, rfl⟩
  · refine E.ifN (q := 50) X47 hx (hb hby d14_47) (XT.i0_eq_f hq) ?_
    refine E.iconst (q := 51) (v := (1 : Int32)) X47 hx (hb hby d14_50) rfl ?_
    refine E.goto (q := 55) X47 hx (hb hby d14_51) ?_
    exact Ends.retS X47 hx hlk hret (by simp) rfl (hb hby d14_55) (by decide) (by decide) ⟨by rw [if_pos (Classical.byContradiction fun q => hq (if_neg q))], e47, rfl⟩
theorem efSame (m : MethodId) (x0 : Addr) (x1 : Addr) : entryFrame m #[(.ref x0), (.ref x1)] 3 = mkF m 0 #[.val (.ref x0), .val (.ref x1), .unset] [] := by first | (simp [entryFrame, mkF, argsToLocals, Value.category]; done) | rfl
set_option maxRecDepth 65536 in
set_option maxHeartbeats 40000000 in
theorem rmSame (l : Launch) (Z : State) (a0 : Array Value) (hw : ∀ d ∈ tables_1, d.before a0 Z = true) (oa : Addr) (h0 : Heap) :
    Con l (⟨"java/lang/String", "equals", "(Ljava/lang/Object;)Z"⟩ : MethodName) jdk_42_method_66_code 3 (some .boolean) [] ({ frames := 0, cells := 0, slots := 0, locals := 0 } : Room) #[(.ref oa), (.ref oa)] Z h0 (fun v h L => v = some (.int (1 : Int32)) ∧ h = h0 ∧ L = []) := by
  refine Con.of (plainFor_of_name pn_1) ?_
  intro p e s m below meth c s₁ hx hZ hby hml hown hnm hret hlk X0 e0
  refine Ends.cast (efSame m oa oa) ?_
  show Ends false p e below s _ _ _ s₁ (mkF m 0 #[.val (.ref oa), .val (.ref oa), .unset] [])
  refine E.aloadN (q := 1) X0 hx (hb hby d14_0) rfl rfl ?_
  refine E.aloadN (q := 2) X0 hx (hb hby d14_1) rfl rfl ?_
  refine E.acmpN (q := 5) X0 hx (hb hby d14_2) rfl rfl (Jvm.Free.XT.aa_ne_f rfl) ?_
  refine E.iconst (q := 6) (v := (1 : Int32)) X0 hx (hb hby d14_5) rfl ?_
  exact Ends.retS X0 hx hlk hret (by simp) rfl (hb hby d14_6) (by decide) (by decide) ⟨rfl, e0, rfl⟩
theorem ef_12 (m : MethodId) (x0 : Addr) (x1 : Addr) : entryFrame m #[(.ref x0), (.ref x1)] 2 = mkF m 0 #[.val (.ref x0), .val (.ref x1)] [] := by first | (simp [entryFrame, mkF, argsToLocals, Value.category]; done) | rfl
set_option maxRecDepth 65536 in
set_option maxHeartbeats 40000000 in
theorem rm12 (l : Launch) (Z : State) (a0 : Array Value) (hw : ∀ d ∈ tables_1, d.before a0 Z = true) (oa : Addr) (om : Addr) (h0 : Heap) :
    Con l (⟨"java/util/Objects", "requireNonNull", "(Ljava/lang/Object;Ljava/lang/String;)Ljava/lang/Object;"⟩ : MethodName) jdk_31_method_11_code 2 (some (.object "java/lang/Object")) [] ({ frames := 0, cells := 0, slots := 0, locals := 0 } : Room) #[(.ref oa), (.ref om)] Z h0 (fun v h L => v = some (.ref oa) ∧ h = h0 ∧ L = []) := by
  refine Con.of (plainFor_of_name pn_3) ?_
  intro p e s m below meth c s₁ hx hZ hby hml hown hnm hret hlk X0 e0
  refine Ends.cast (ef_12 m oa om) ?_
  show Ends false p e below s _ _ _ s₁ (mkF m 0 #[.val (.ref oa), .val (.ref om)] [])
  refine E.aloadN (q := 1) X0 hx (hb hby d12_0) rfl rfl ?_
  refine E.nonnullY (q := 13) X0 hx (hb hby d12_1) ?_
  refine E.aloadN (q := 14) X0 hx (hb hby d12_13) rfl rfl ?_
  exact Ends.retA X0 hx hlk hret rfl rfl rfl (hb hby d12_14) (by decide) (by decide) ⟨rfl, e0, rfl⟩
theorem ef_11 (m : MethodId) (x0 : Addr) (x1 : Addr) (x2 : Addr) (x3 : Int64) : entryFrame m #[(.ref x0), (.ref x1), (.ref x2), (.long x3)] 5 = mkF m 0 #[.val (.ref x0), .val (.ref x1), .val (.ref x2), .val (.long x3), .second] [] := by first | (simp [entryFrame, mkF, argsToLocals, Value.category]; done) | rfl
set_option maxRecDepth 65536 in
set_option maxHeartbeats 40000000 in
theorem rm11 (l : Launch) (Z : State) (a0 : Array Value) (hw : ∀ d ∈ tables_1, d.before a0 Z = true) (oa : Addr) (ok : Addr) (ov : Addr) (sq : Int64) (h0 : Heap) (E0 : Exa Z h0 oa "com/example/people_in_groups/peopleingroups/model/ExtensionPair") (F_k : Fld Z h0 oa "com/example/people_in_groups/peopleingroups/model/ExtensionPair" "key" "Ljava/lang/String;" .null) (F_v : Fld Z h0 oa "com/example/people_in_groups/peopleingroups/model/ExtensionPair" "value" "Ljava/lang/String;" .null) (F_s : Fld Z h0 oa "com/example/people_in_groups/peopleingroups/model/ExtensionPair" "seq" "J" (.long (0 : Int64))) (Ek : Exa Z h0 ok "java/lang/String") (Ev : Exa Z h0 ov "java/lang/String") :
    ConW l (⟨"com/example/people_in_groups/peopleingroups/model/ExtensionPair", "<init>", "(Ljava/lang/String;Ljava/lang/String;J)V"⟩ : MethodName) prog_7_method_1_code 5 none [] ({ frames := 1, cells := 4, slots := 40, locals := 24 } : Room) #[(.ref oa), (.ref ok), (.ref ov), (.long sq)] Z h0 (fun v h L => v = none ∧ Ok h0 h [oa] L ∧ Fld Z h oa "com/example/people_in_groups/peopleingroups/model/ExtensionPair" "key" "Ljava/lang/String;" (.ref ok) ∧ Fld Z h oa "com/example/people_in_groups/peopleingroups/model/ExtensionPair" "value" "Ljava/lang/String;" (.ref ov) ∧ Fld Z h oa "com/example/people_in_groups/peopleingroups/model/ExtensionPair" "seq" "J" (.long sq)) := by
  refine ConW.of (plainFor_of_name pn_4) ?_
  intro p e s m below meth c s₁ hx hZ hby hml hown hnm hret hlk X0 e0
  refine Ends.cast (ef_11 m oa ok ov sq) ?_
  show Ends true p e below s _ _ _ s₁ (mkF m 0 #[.val (.ref oa), .val (.ref ok), .val (.ref ov), .val (.long sq), .second] [])
  have O0 := Ok.refl h0 [oa]
  refine E.aloadN (q := 1) X0 hx (hb hby d11_0) rfl rfl ?_
  refine Ends.initO X0 hx hZ hown (hw _ (List.mem_of_getElem? (i := 50) rfl)) (hw _ (List.mem_of_getElem? (i := 21) rfl)) (hw _ (List.mem_of_getElem? (i := 22) rfl)) e0 (by rw [hml]; rfl) (hb hby d11_1) (by decide) (W := 0) (Nat.le_of_eq rfl) (by decide) ?_
  intro T48 X48 e48
  refine E.aloadN (q := 5) X48 hx (hb hby d11_4) rfl rfl ?_
  refine E.aloadN (q := 6) X48 hx (hb hby d11_5) rfl rfl ?_
  refine Ends.ldcS X48 hx hZ hown (hw _ (List.mem_of_getElem? (i := 51) rfl)) (own_sat hw) e48 (Nat.zero_le _) (hb hby d11_6) 12 (by decide) (by decide) (by decide) (by decide) ?_
  intro s T49 h49 c49 X49 e49 E49 hZ hown
  have O49 := O0.ext E49
  show Ends true p e below s _ _ _ T49 (mkF m 8 #[.val (.ref oa), .val (.ref ok), .val (.ref ov), .val (.long sq), .second] [(.ref c49), (.ref ok), (.ref oa)])
  refine Ends.callS X49 hx hZ hown (hw _ (List.mem_of_getElem? (i := 54) rfl)) (hw _ (List.mem_of_getElem? (i := 55) rfl)) (hw _ (List.mem_of_getElem? (i := 56) rfl)) (hw _ (List.mem_of_getElem? (i := 57) rfl)) (by decide) (argsL := [(.ref ok), (.ref c49)]) (rest := [(.ref oa)]) e49 (rm12 l Z a0 hw ok c49 _) (W := 1) (by decide) (by decide) (by rw [hml]; rfl) (lenOf pd_8 rfl) (Nat.le_of_eq rfl) (hb hby d11_8) (by decide) (by decide) rfl ?_
  rintro T50 v50 L50 X50 ⟨rfl, e50, rfl⟩
  rw [List.append_nil] at X50
  show Ends true p e below s _ _ _ T50 (mkF m 11 #[.val (.ref oa), .val (.ref ok), .val (.ref ov), .val (.long sq), .second] [(.ref ok), (.ref oa)])
  have f51 := Ek.ext E49
  refine Ends.castY X50 hx hZ hown (hw _ (List.mem_of_getElem? (i := 58) rfl)) e50 (Ins.self f51) (hb hby d11_11) ?_
  intro T52 X52 e52
  have f53 := F_k.ext E49
  have f54 := E0.ext E49
  refine Ends.putF X52 hx hZ hown (host := "") (Or.inl (hw _ (List.mem_of_getElem? (i := 59) rfl))) Via.refl e52 f53 f54 (Or.inr ⟨(hw _ (List.mem_of_getElem? (i := 60) rfl)), rfl, hnm⟩) (hw _ (List.mem_of_getElem? (i := 45) rfl)) (ty := (.object "java/lang/String")) (by decide) rfl rfl (hb hby d11_14) ?_
  intro T55 h55 X55 e55 W55 Fw55
  have O55 := O49.wr W55 (Or.inl (List.mem_of_getElem? (i := 0) rfl))
  refine E.aloadN (q := 18) X55 hx (hb hby d11_17) rfl rfl ?_
  refine E.aloadN (q := 19) X55 hx (hb hby d11_18) rfl rfl ?_
  refine Ends.ldcS X55 hx hZ hown (hw _ (List.mem_of_getElem? (i := 61) rfl)) (own_sat hw) e55 (Nat.le_trans (Nat.le_refl _) (own_wr_le W55)) (hb hby d11_19) 20 (by decide) (by decide) (by decide) (by decide) ?_
  intro s T56 h56 c56 X56 e56 E56 hZ hown
  have O56 := O55.ext E56
  show Ends true p e below s _ _ _ T56 (mkF m 21 #[.val (.ref oa), .val (.ref ok), .val (.ref ov), .val (.long sq), .second] [(.ref c56), (.ref ov), (.ref oa)])
  refine Ends.callS X56 hx hZ hown (hw _ (List.mem_of_getElem? (i := 54) rfl)) (hw _ (List.mem_of_getElem? (i := 55) rfl)) (hw _ (List.mem_of_getElem? (i := 56) rfl)) (hw _ (List.mem_of_getElem? (i := 57) rfl)) (by decide) (argsL := [(.ref ov), (.ref c56)]) (rest := [(.ref oa)]) e56 (rm12 l Z a0 hw ov c56 _) (W := 1) (by decide) (by decide) (by rw [hml]; rfl) (lenOf pd_8 rfl) (Nat.le_of_eq rfl) (hb hby d11_21) (by decide) (by decide) rfl ?_
  rintro T57 v57 L57 X57 ⟨rfl, e57, rfl⟩
  rw [List.append_nil] at X57
  show Ends true p e below s _ _ _ T57 (mkF m 24 #[.val (.ref oa), .val (.ref ok), .val (.ref ov), .val (.long sq), .second] [(.ref ov), (.ref oa)])
  have f58 := Ev.ext E49
  have f59 := f58.wr W55
  have f60 := f59.ext E56
  refine Ends.castY X57 hx hZ hown (hw _ (List.mem_of_getElem? (i := 58) rfl)) e57 (Ins.self f60) (hb hby d11_24) ?_
  intro T61 X61 e61
  have f62 := F_v.ext E49
  have f63 := f62.other W55 (Or.inr (slot_ne (Or.inr (hw _ (List.mem_of_getElem? (i := 63) rfl))) (Or.inr (hw _ (List.mem_of_getElem? (i := 60) rfl))) (by decide) (t := (.object "java/lang/String")) (t' := (.object "java/lang/String")) (by decide) (by decide)))
  have f64 := f63.ext E56
  have f65 := f54.wr W55
  have f66 := f65.ext E56
  refine Ends.putF X61 hx hZ hown (host := "") (Or.inl (hw _ (List.mem_of_getElem? (i := 62) rfl))) Via.refl e61 f64 f66 (Or.inr ⟨(hw _ (List.mem_of_getElem? (i := 63) rfl)), rfl, hnm⟩) (hw _ (List.mem_of_getElem? (i := 45) rfl)) (ty := (.object "java/lang/String")) (by decide) rfl rfl (hb hby d11_27) ?_
  intro T67 h67 X67 e67 W67 Fw67
  have O67 := O56.wr W67 (Or.inl (List.mem_of_getElem? (i := 0) rfl))
  refine E.aloadN (q := 31) X67 hx (hb hby d11_30) rfl rfl ?_
  refine E.lloadN (q := 32) X67 hx (hb hby d11_31) rfl ?_
  have f68 := F_s.ext E49
  have f69 := f68.other W55 (Or.inr (slot_ne (Or.inr (hw _ (List.mem_of_getElem? (i := 65) rfl))) (Or.inr (hw _ (List.mem_of_getElem? (i := 60) rfl))) (by decide) (t := .long) (t' := (.object "java/lang/String")) (by decide) (by decide)))
  have f70 := f69.ext E56
  have f71 := f70.other W67 (Or.inr (slot_ne (Or.inr (hw _ (List.mem_of_getElem? (i := 65) rfl))) (Or.inr (hw _ (List.mem_of_getElem? (i := 63) rfl))) (by decide) (t := .long) (t' := (.object "java/lang/String")) (by decide) (by decide)))
  have f72 := f66.wr W67
  refine Ends.putF X67 hx hZ hown (host := "") (Or.inl (hw _ (List.mem_of_getElem? (i := 64) rfl))) Via.refl e67 f71 f72 (Or.inr ⟨(hw _ (List.mem_of_getElem? (i := 65) rfl)), rfl, hnm⟩) (hw _ (List.mem_of_getElem? (i := 45) rfl)) (ty := .long) (by decide) rfl rfl (hb hby d11_32) ?_
  intro T73 h73 X73 e73 W73 Fw73
  have O73 := O67.wr W73 (Or.inl (List.mem_of_getElem? (i := 0) rfl))
  have f74 := Fw55.ext E56
  have f75 := f74.other W67 (Or.inr (slot_ne (Or.inr (hw _ (List.mem_of_getElem? (i := 60) rfl))) (Or.inr (hw _ (List.mem_of_getElem? (i := 63) rfl))) (by decide) (t := (.object "java/lang/String")) (t' := (.object "java/lang/String")) (by decide) (by decide)))
  have f76 := f75.other W73 (Or.inr (slot_ne (Or.inr (hw _ (List.mem_of_getElem? (i := 60) rfl))) (Or.inr (hw _ (List.mem_of_getElem? (i := 65) rfl))) (by decide) (t := (.object "java/lang/String")) (t' := .long) (by decide) (by decide)))
  have f77 := Fw67.other W73 (Or.inr (slot_ne (Or.inr (hw _ (List.mem_of_getElem? (i := 63) rfl))) (Or.inr (hw _ (List.mem_of_getElem? (i := 65) rfl))) (by decide) (t := (.object "java/lang/String")) (t' := .long) (by decide) (by decide)))
  subst e73
  exact Ends.retV X73 hx hlk hret (hb hby d11_35) (by decide) (by decide) ⟨⟨rfl, O73, f76, f77, Fw73⟩, by first | exact (Nat.le_trans (Nat.le_trans (Nat.le_refl _) (own_wr_le W67)) (own_wr_le W73)) | (rw [e73]; exact (Nat.le_trans (Nat.le_trans (Nat.le_refl _) (own_wr_le W67)) (own_wr_le W73)))⟩
theorem ef_13 (m : MethodId) (x0 : Addr) (x1 : Addr) : entryFrame m #[(.ref x0), (.ref x1)] 3 = mkF m 0 #[.val (.ref x0), .val (.ref x1), .unset] [] := by first | (simp [entryFrame, mkF, argsToLocals, Value.category]; done) | rfl
set_option maxRecDepth 65536 in
set_option maxHeartbeats 40000000 in
theorem rm13 (l : Launch) (Z : State) (a0 : Array Value) (hw : ∀ d ∈ tables_1, d.before a0 Z = true) (oa : Addr) (ob : Addr) (k1 v1 k2 v2 K1 V1 K2 V2 : Addr) (s1 s2 : Int64) (ks vs ls us : List Int32) (h0 : Heap) (Eb : Exa Z h0 ob "com/example/people_in_groups/peopleingroups/model/ExtensionPair") (Fk1 : Fld Z h0 oa "com/example/people_in_groups/peopleingroups/model/ExtensionPair" "key" "Ljava/lang/String;" (.ref k1)) (Fv1 : Fld Z h0 oa "com/example/people_in_groups/peopleingroups/model/ExtensionPair" "value" "Ljava/lang/String;" (.ref v1)) (Fs1 : Fld Z h0 oa "com/example/people_in_groups/peopleingroups/model/ExtensionPair" "seq" "J" (.long s1)) (Fk2 : Fld Z h0 ob "com/example/people_in_groups/peopleingroups/model/ExtensionPair" "key" "Ljava/lang/String;" (.ref k2)) (Fv2 : Fld Z h0 ob "com/example/people_in_groups/peopleingroups/model/ExtensionPair" "value" "Ljava/lang/String;" (.ref v2)) (Fs2 : Fld Z h0 ob "com/example/people_in_groups/peopleingroups/model/ExtensionPair" "seq" "J" (.long s2)) (Ek1 : Exa Z h0 k1 "java/lang/String") (Svk1 : Fld Z h0 k1 "java/lang/String" "value" "[B" (.ref K1)) (Sck1 : Fld Z h0 k1 "java/lang/String" "coder" "B" (.int (0 : Int32))) (Sak1 : Ary Z h0 K1 .byte (ks.map Value.int)) (Ev1 : Exa Z h0 v1 "java/lang/String") (Svv1 : Fld Z h0 v1 "java/lang/String" "value" "[B" (.ref V1)) (Scv1 : Fld Z h0 v1 "java/lang/String" "coder" "B" (.int (0 : Int32))) (Sav1 : Ary Z h0 V1 .byte (vs.map Value.int)) (Ek2 : Exa Z h0 k2 "java/lang/String") (Svk2 : Fld Z h0 k2 "java/lang/String" "value" "[B" (.ref K2)) (Sck2 : Fld Z h0 k2 "java/lang/String" "coder" "B" (.int (0 : Int32))) (Sak2 : Ary Z h0 K2 .byte (ls.map Value.int)) (Ev2 : Exa Z h0 v2 "java/lang/String") (Svv2 : Fld Z h0 v2 "java/lang/String" "value" "[B" (.ref V2)) (Scv2 : Fld Z h0 v2 "java/lang/String" "coder" "B" (.int (0 : Int32))) (Sav2 : Ary Z h0 V2 .byte (us.map Value.int)) (hnk : k1 ≠ k2) (hnv : v1 ≠ v2) (cs : Int32) (hcs : ¬ cs = (0 : Int32)) (S0 : Sta Z h0 "java/lang/String" "COMPACT_STRINGS" "Z" (.int cs)) :
    Con l (⟨"com/example/people_in_groups/peopleingroups/model/ExtensionPair", "equals", "(Ljava/lang/Object;)Z"⟩ : MethodName) prog_7_method_5_code 3 (some .boolean) [] ({ frames := 2, cells := 0, slots := 0, locals := 48 } : Room) #[(.ref oa), (.ref ob)] Z h0 (fun v h L => v = some (.int (if ks = ls ∧ vs = us ∧ s1 = s2 then (1 : Int32) else 0)) ∧ h = h0 ∧ L = []) := by
  refine Con.of (plainFor_of_name pn_4) ?_
  intro p e s m below meth c s₁ hx hZ hby hml hown hnm hret hlk X0 e0
  refine Ends.cast (ef_13 m oa ob) ?_
  show Ends false p e below s _ _ _ s₁ (mkF m 0 #[.val (.ref oa), .val (.ref ob), .unset] [])
  have O0 := Ok.refl h0 []
  refine E.aloadN (q := 1) X0 hx (hb hby d13_0) rfl rfl ?_
  refine Ends.instY X0 hx hZ hown (hw _ (List.mem_of_getElem? (i := 71) rfl)) e0 (Ins.self Eb) (hb hby d13_1) ?_
  intro T78 X78 e78
  refine E.ifY (q := 9) X78 hx (hb hby d13_4) (XT.i0_ne_t (by decide)) ?_
  refine E.aloadN (q := 10) X78 hx (hb hby d13_9) rfl rfl ?_
  refine Ends.castY X78 hx hZ hown (hw _ (List.mem_of_getElem? (i := 71) rfl)) e78 (Ins.self Eb) (hb hby d13_10) ?_
  intro T79 X79 e79
  refine E.astoreN (q := 14) (l' := #[.val (.ref oa), .val (.ref ob), .val (.ref ob)]) X79 hx (hb hby d13_13) rfl rfl ?_
  refine E.aloadN (q := 15) X79 hx (hb hby d13_14) rfl rfl ?_
  refine Ends.getF X79 hx hZ hown (host := "") (Or.inl (hw _ (List.mem_of_getElem? (i := 59) rfl))) Via.refl e79 Fk1 (hb hby d13_15) ?_
  intro T80 X80 e80
  refine E.aloadN (q := 19) X80 hx (hb hby d13_18) rfl rfl ?_
  refine Ends.getF X80 hx hZ hown (host := "") (Or.inl (hw _ (List.mem_of_getElem? (i := 59) rfl))) Via.refl e80 Fk2 (hb hby d13_19) ?_
  intro T81 X81 e81
  refine Ends.callV X81 hx hZ hown (hw _ (List.mem_of_getElem? (i := 73) rfl)) (hw _ (List.mem_of_getElem? (i := 74) rfl)) (hw _ (List.mem_of_getElem? (i := 76) rfl)) (hw _ (List.mem_of_getElem? (i := 75) rfl)) (hw _ (List.mem_of_getElem? (i := 3) rfl)) (hw _ (List.mem_of_getElem? (i := 77) rfl)) (by decide) (argsL := [(.ref k2)]) (rest := []) e81 Ek1 (rm14 l Z a0 hw k1 k2 K1 K2 ks ls _ Ek1 Svk1 Sck1 Ek2 Svk2 Sck2 Sak1 Sak2 hnk cs hcs S0) (W := 0) (by decide) (by decide) (by rw [hml]; rfl) (lenOf pd_9 rfl) (Nat.le_of_eq rfl) (hb hby d13_22) (by decide) (by decide) rfl ?_
  rintro T82 v82 L82 X82 ⟨rfl, e82, rfl⟩
  rw [List.append_nil] at X82
  show Ends false p e below s _ _ _ T82 (mkF m 25 #[.val (.ref oa), .val (.ref ob), .val (.ref ob)] [(.int (if ks = ls then (1 : Int32) else 0))])
  by_cases hk : (if ks = ls then (1 : Int32) else 0) = (0 : Int32)
  · refine E.ifY (q := 58) X82 hx (hb hby d13_25) (XT.i0_eq_t hk) ?_
    refine E.iconst (q := 59) (v := (0 : Int32)) X82 hx (hb hby d13_58) rfl ?_
    exact Ends.retS X82 hx hlk hret (by simp) rfl (hb hby d13_59) (by decide) (by decide) ⟨by rw [if_neg (fun q => by rw [if_pos q.1] at hk; exact absurd hk (by decide))], e82, rfl⟩
  · refine E.ifN (q := 28) X82 hx (hb hby d13_25) (XT.i0_eq_f hk) ?_
    have hk' : ks = ls := Classical.byContradiction fun q => hk (if_neg q)
    refine E.aloadN (q := 29) X82 hx (hb hby d13_28) rfl rfl ?_
    refine Ends.getF X82 hx hZ hown (host := "") (Or.inl (hw _ (List.mem_of_getElem? (i := 62) rfl))) Via.refl e82 Fv1 (hb hby d13_29) ?_
    intro T83 X83 e83
    refine E.aloadN (q := 33) X83 hx (hb hby d13_32) rfl rfl ?_
    refine Ends.getF X83 hx hZ hown (host := "") (Or.inl (hw _ (List.mem_of_getElem? (i := 62) rfl))) Via.refl e83 Fv2 (hb hby d13_33) ?_
    intro T84 X84 e84
    refine Ends.callV X84 hx hZ hown (hw _ (List.mem_of_getElem? (i := 73) rfl)) (hw _ (List.mem_of_getElem? (i := 74) rfl)) (hw _ (List.mem_of_getElem? (i := 76) rfl)) (hw _ (List.mem_of_getElem? (i := 75) rfl)) (hw _ (List.mem_of_getElem? (i := 3) rfl)) (hw _ (List.mem_of_getElem? (i := 77) rfl)) (by decide) (argsL := [(.ref v2)]) (rest := []) e84 Ev1 (rm14 l Z a0 hw v1 v2 V1 V2 vs us _ Ev1 Svv1 Scv1 Ev2 Svv2 Scv2 Sav1 Sav2 hnv cs hcs S0) (W := 0) (by decide) (by decide) (by rw [hml]; rfl) (lenOf pd_9 rfl) (Nat.le_of_eq rfl) (hb hby d13_36) (by decide) (by decide) rfl ?_
    rintro T85 v85 L85 X85 ⟨rfl, e85, rfl⟩
    rw [List.append_nil] at X85
    show Ends false p e below s _ _ _ T85 (mkF m 39 #[.val (.ref oa), .val (.ref ob), .val (.ref ob)] [(.int (if vs = us then (1 : Int32) else 0))])
    by_cases hv : (if vs = us then (1 : Int32) else 0) = (0 : Int32)
    · refine E.ifY (q := 58) X85 hx (hb hby d13_39) (XT.i0_eq_t hv) ?_
      refine E.iconst (q := 59) (v := (0 : Int32)) X85 hx (hb hby d13_58) rfl ?_
      exact Ends.retS X85 hx hlk hret (by simp) rfl (hb hby d13_59) (by decide) (by decide) ⟨by rw [if_neg (fun q => by rw [if_pos q.2.1] at hv; exact absurd hv (by decide))], e85, rfl⟩
    · refine E.ifN (q := 42) X85 hx (hb hby d13_39) (XT.i0_eq_f hv) ?_
      have hv' : vs = us := Classical.byContradiction fun q => hv (if_neg q)
      refine E.aloadN (q := 43) X85 hx (hb hby d13_42) rfl rfl ?_
      refine Ends.getF X85 hx hZ hown (host := "") (Or.inl (hw _ (List.mem_of_getElem? (i := 64) rfl))) Via.refl e85 Fs1 (hb hby d13_43) ?_
      intro T86 X86 e86
      refine E.aloadN (q := 47) X86 hx (hb hby d13_46) rfl rfl ?_
      refine Ends.getF X86 hx hZ hown (host := "") (Or.inl (hw _ (List.mem_of_getElem? (i := 64) rfl))) Via.refl e86 Fs2 (hb hby d13_47) ?_
      intro T87 X87 e87
      refine E.lcmp (q := 51) X87 hx (hb hby d13_50) ?_
      by_cases hs : s1 = s2
      · refine E.ifN (q := 54) X87 hx (hb hby d13_51) (XT.i0_ne_f ((lw_eq _ _).mpr hs)) ?_
        refine E.iconst (q := 55) (v := (1 : Int32)) X87 hx (hb hby d13_54) rfl ?_
        refine E.goto (q := 59) X87 hx (hb hby d13_55) ?_
        exact Ends.retS X87 hx hlk hret (by simp) rfl (hb hby d13_59) (by decide) (by decide) ⟨by rw [if_pos ⟨hk', hv', hs⟩], e87, rfl⟩
      · refine E.ifY (q := 58) X87 hx (hb hby d13_51) (XT.i0_ne_t (fun q => hs ((lw_eq _ _).mp q))) ?_
        refine E.iconst (q := 59) (v := (0 : Int32)) X87 hx (hb hby d13_58) rfl ?_
        exact Ends.retS X87 hx hlk hret (by simp) rfl (hb hby d13_59) (by decide) (by decide) ⟨by rw [if_neg (fun q => hs q.2.2)], e87, rfl⟩
theorem efEs (m : MethodId) (x0 : Addr) (x1 : Addr) : entryFrame m #[(.ref x0), (.ref x1)] 3 = mkF m 0 #[.val (.ref x0), .val (.ref x1), .unset] [] := by first | (simp [entryFrame, mkF, argsToLocals, Value.category]; done) | rfl
set_option maxRecDepth 65536 in
set_option maxHeartbeats 40000000 in
theorem rmEs (l : Launch) (Z : State) (a0 : Array Value) (hw : ∀ d ∈ tables_1, d.before a0 Z = true) (oa : Addr) (k1 v1 : Addr) (s1 : Int64) (h0 : Heap) (Eb : Exa Z h0 oa "com/example/people_in_groups/peopleingroups/model/ExtensionPair") (Fk1 : Fld Z h0 oa "com/example/people_in_groups/peopleingroups/model/ExtensionPair" "key" "Ljava/lang/String;" (.ref k1)) (Fv1 : Fld Z h0 oa "com/example/people_in_groups/peopleingroups/model/ExtensionPair" "value" "Ljava/lang/String;" (.ref v1)) (Fs1 : Fld Z h0 oa "com/example/people_in_groups/peopleingroups/model/ExtensionPair" "seq" "J" (.long s1)) (Ek1 : Exa Z h0 k1 "java/lang/String") (Ev1 : Exa Z h0 v1 "java/lang/String") :
    Con l (⟨"com/example/people_in_groups/peopleingroups/model/ExtensionPair", "equals", "(Ljava/lang/Object;)Z"⟩ : MethodName) prog_7_method_5_code 3 (some .boolean) [] ({ frames := 1, cells := 0, slots := 0, locals := 24 } : Room) #[(.ref oa), (.ref oa)] Z h0 (fun v h L => v = some (.int (1 : Int32)) ∧ h = h0 ∧ L = []) := by
  refine Con.of (plainFor_of_name pn_4) ?_
  intro p e s m below meth c s₁ hx hZ hby hml hown hnm hret hlk X0 e0
  refine Ends.cast (efEs m oa oa) ?_
  show Ends false p e below s _ _ _ s₁ (mkF m 0 #[.val (.ref oa), .val (.ref oa), .unset] [])
  have O0 := Ok.refl h0 []
  refine E.aloadN (q := 1) X0 hx (hb hby d13_0) rfl rfl ?_
  refine Ends.instY X0 hx hZ hown (hw _ (List.mem_of_getElem? (i := 71) rfl)) e0 (Ins.self Eb) (hb hby d13_1) ?_
  intro T88 X88 e88
  refine E.ifY (q := 9) X88 hx (hb hby d13_4) (XT.i0_ne_t (by decide)) ?_
  refine E.aloadN (q := 10) X88 hx (hb hby d13_9) rfl rfl ?_
  refine Ends.castY X88 hx hZ hown (hw _ (List.mem_of_getElem? (i := 71) rfl)) e88 (Ins.self Eb) (hb hby d13_10) ?_
  intro T89 X89 e89
  refine E.astoreN (q := 14) (l' := #[.val (.ref oa), .val (.ref oa), .val (.ref oa)]) X89 hx (hb hby d13_13) rfl rfl ?_
  refine E.aloadN (q := 15) X89 hx (hb hby d13_14) rfl rfl ?_
  refine Ends.getF X89 hx hZ hown (host := "") (Or.inl (hw _ (List.mem_of_getElem? (i := 59) rfl))) Via.refl e89 Fk1 (hb hby d13_15) ?_
  intro T90 X90 e90
  refine E.aloadN (q := 19) X90 hx (hb hby d13_18) rfl rfl ?_
  refine Ends.getF X90 hx hZ hown (host := "") (Or.inl (hw _ (List.mem_of_getElem? (i := 59) rfl))) Via.refl e90 Fk1 (hb hby d13_19) ?_
  intro T91 X91 e91
  refine Ends.callV X91 hx hZ hown (hw _ (List.mem_of_getElem? (i := 73) rfl)) (hw _ (List.mem_of_getElem? (i := 74) rfl)) (hw _ (List.mem_of_getElem? (i := 76) rfl)) (hw _ (List.mem_of_getElem? (i := 75) rfl)) (hw _ (List.mem_of_getElem? (i := 3) rfl)) (hw _ (List.mem_of_getElem? (i := 77) rfl)) (by decide) (argsL := [(.ref k1)]) (rest := []) e91 Ek1 (rmSame l Z a0 hw k1 _) (W := 0) (by decide) (by decide) (by rw [hml]; rfl) (lenOf pd_9 rfl) (Nat.le_of_eq rfl) (hb hby d13_22) (by decide) (by decide) rfl ?_
  rintro T92 v92 L92 X92 ⟨rfl, e92, rfl⟩
  rw [List.append_nil] at X92
  show Ends false p e below s _ _ _ T92 (mkF m 25 #[.val (.ref oa), .val (.ref oa), .val (.ref oa)] [(.int (1 : Int32))])
  refine E.ifN (q := 28) X92 hx (hb hby d13_25) (XT.i0_eq_f (by decide)) ?_
  refine E.aloadN (q := 29) X92 hx (hb hby d13_28) rfl rfl ?_
  refine Ends.getF X92 hx hZ hown (host := "") (Or.inl (hw _ (List.mem_of_getElem? (i := 62) rfl))) Via.refl e92 Fv1 (hb hby d13_29) ?_
  intro T93 X93 e93
  refine E.aloadN (q := 33) X93 hx (hb hby d13_32) rfl rfl ?_
  refine Ends.getF X93 hx hZ hown (host := "") (Or.inl (hw _ (List.mem_of_getElem? (i := 62) rfl))) Via.refl e93 Fv1 (hb hby d13_33) ?_
  intro T94 X94 e94
  refine Ends.callV X94 hx hZ hown (hw _ (List.mem_of_getElem? (i := 73) rfl)) (hw _ (List.mem_of_getElem? (i := 74) rfl)) (hw _ (List.mem_of_getElem? (i := 76) rfl)) (hw _ (List.mem_of_getElem? (i := 75) rfl)) (hw _ (List.mem_of_getElem? (i := 3) rfl)) (hw _ (List.mem_of_getElem? (i := 77) rfl)) (by decide) (argsL := [(.ref v1)]) (rest := []) e94 Ev1 (rmSame l Z a0 hw v1 _) (W := 0) (by decide) (by decide) (by rw [hml]; rfl) (lenOf pd_9 rfl) (Nat.le_of_eq rfl) (hb hby d13_36) (by decide) (by decide) rfl ?_
  rintro T95 v95 L95 X95 ⟨rfl, e95, rfl⟩
  rw [List.append_nil] at X95
  show Ends false p e below s _ _ _ T95 (mkF m 39 #[.val (.ref oa), .val (.ref oa), .val (.ref oa)] [(.int (1 : Int32))])
  refine E.ifN (q := 42) X95 hx (hb hby d13_39) (XT.i0_eq_f (by decide)) ?_
  refine E.aloadN (q := 43) X95 hx (hb hby d13_42) rfl rfl ?_
  refine Ends.getF X95 hx hZ hown (host := "") (Or.inl (hw _ (List.mem_of_getElem? (i := 64) rfl))) Via.refl e95 Fs1 (hb hby d13_43) ?_
  intro T96 X96 e96
  refine E.aloadN (q := 47) X96 hx (hb hby d13_46) rfl rfl ?_
  refine Ends.getF X96 hx hZ hown (host := "") (Or.inl (hw _ (List.mem_of_getElem? (i := 64) rfl))) Via.refl e96 Fs1 (hb hby d13_47) ?_
  intro T97 X97 e97
  refine E.lcmp (q := 51) X97 hx (hb hby d13_50) ?_
  refine E.ifN (q := 54) X97 hx (hb hby d13_51) (XT.i0_ne_f ((lw_eq _ _).mpr rfl)) ?_
  refine E.iconst (q := 55) (v := (1 : Int32)) X97 hx (hb hby d13_54) rfl ?_
  refine E.goto (q := 59) X97 hx (hb hby d13_55) ?_
  exact Ends.retS X97 hx hlk hret (by simp) rfl (hb hby d13_59) (by decide) (by decide) ⟨rfl, e97, rfl⟩
theorem efEn (m : MethodId) (x0 : Addr) : entryFrame m #[(.ref x0), .null] 3 = mkF m 0 #[.val (.ref x0), .val .null, .unset] [] := by first | (simp [entryFrame, mkF, argsToLocals, Value.category]; done) | rfl
set_option maxRecDepth 65536 in
set_option maxHeartbeats 40000000 in
theorem rmEn (l : Launch) (Z : State) (a0 : Array Value) (hw : ∀ d ∈ tables_1, d.before a0 Z = true) (oa : Addr) (h0 : Heap) :
    Con l (⟨"com/example/people_in_groups/peopleingroups/model/ExtensionPair", "equals", "(Ljava/lang/Object;)Z"⟩ : MethodName) prog_7_method_5_code 3 (some .boolean) [] ({ frames := 0, cells := 0, slots := 0, locals := 0 } : Room) #[(.ref oa), .null] Z h0 (fun v h L => v = some (.int (0 : Int32)) ∧ h = h0 ∧ L = []) := by
  refine Con.of (plainFor_of_name pn_4) ?_
  intro p e s m below meth c s₁ hx hZ hby hml hown hnm hret hlk X0 e0
  refine Ends.cast (efEn m oa) ?_
  show Ends false p e below s _ _ _ s₁ (mkF m 0 #[.val (.ref oa), .val .null, .unset] [])
  have O0 := Ok.refl h0 []
  refine E.aloadN (q := 1) X0 hx (hb hby d13_0) rfl rfl ?_
  refine Ends.instNull X0 hx (hb hby d13_1) ?_
  refine E.ifN (q := 7) X0 hx (hb hby d13_4) (XT.i0_ne_f (by decide)) ?_
  refine E.iconst (q := 8) (v := (0 : Int32)) X0 hx (hb hby d13_7) rfl ?_
  exact Ends.retS X0 hx hlk hret (by simp) rfl (hb hby d13_8) (by decide) (by decide) ⟨rfl, e0, rfl⟩
theorem efEt (m : MethodId) (x0 : Addr) (x1 : Addr) : entryFrame m #[(.ref x0), (.ref x1)] 3 = mkF m 0 #[.val (.ref x0), .val (.ref x1), .unset] [] := by first | (simp [entryFrame, mkF, argsToLocals, Value.category]; done) | rfl
set_option maxRecDepth 65536 in
set_option maxHeartbeats 40000000 in
theorem rmEt (l : Launch) (Z : State) (a0 : Array Value) (hw : ∀ d ∈ tables_1, d.before a0 Z = true) (oa : Addr) (ob : Addr) (h0 : Heap) (Eb : Exa Z h0 ob "java/lang/String") :
    Con l (⟨"com/example/people_in_groups/peopleingroups/model/ExtensionPair", "equals", "(Ljava/lang/Object;)Z"⟩ : MethodName) prog_7_method_5_code 3 (some .boolean) [] ({ frames := 0, cells := 0, slots := 0, locals := 0 } : Room) #[(.ref oa), (.ref ob)] Z h0 (fun v h L => v = some (.int (0 : Int32)) ∧ h = h0 ∧ L = []) := by
  refine Con.of (plainFor_of_name pn_4) ?_
  intro p e s m below meth c s₁ hx hZ hby hml hown hnm hret hlk X0 e0
  refine Ends.cast (efEt m oa ob) ?_
  show Ends false p e below s _ _ _ s₁ (mkF m 0 #[.val (.ref oa), .val (.ref ob), .unset] [])
  have O0 := Ok.refl h0 []
  refine E.aloadN (q := 1) X0 hx (hb hby d13_0) rfl rfl ?_
  refine Ends.instNo X0 hx hZ hown (hw _ (List.mem_of_getElem? (i := 71) rfl)) e0 Eb (own_notA (hw _ (List.mem_of_getElem? (i := 81) rfl)) (hw _ (List.mem_of_getElem? (i := 82) rfl)) (hw _ (List.mem_of_getElem? (i := 45) rfl)) (by decide) (by decide)) (hb hby d13_1) ?_
  intro T98 X98 e98
  refine E.ifN (q := 7) X98 hx (hb hby d13_4) (XT.i0_ne_f (by decide)) ?_
  refine E.iconst (q := 8) (v := (0 : Int32)) X98 hx (hb hby d13_7) rfl ?_
  exact Ends.retS X98 hx hlk hret (by simp) rfl (hb hby d13_8) (by decide) (by decide) ⟨rfl, e98, rfl⟩
theorem ef_0 (m : MethodId) (x0 : Int32) (x1 : Int32) (x2 : Int64) (x3 : Int64) (x4 : Int32) : entryFrame m #[(.int x0), (.int x1), (.long x2), (.long x3), (.int x4)] maxLocals = mkF m 0 #[.val (.int x0), .val (.int x1), .val (.long x2), .second, .val (.long x3), .second, .val (.int x4), .unset, .unset, .unset, .unset, .unset, .unset, .unset, .unset, .unset, .unset, .unset, .unset, .unset, .unset, .unset, .unset, .unset, .unset, .unset] [] := by first | (simp [entryFrame, mkF, argsToLocals, Value.category, maxLocals]; done) | rfl
set_option maxRecDepth 65536 in
set_option maxHeartbeats 40000000 in
theorem rm0 (l : Launch) (Z : State) (a0 : Array Value) (hw : ∀ d ∈ tables_1, d.before a0 Z = true) (vk : Int32) (vv : Int32) (s1 : Int64) (vd : Int64) (md : Int32) (h0 : Heap) (cs : Int32) (hcs : ¬ cs = (0 : Int32)) (S0 : Sta Z h0 "java/lang/String" "COMPACT_STRINGS" "Z" (.int cs)) :
    ConW l x code maxLocals ret tables_1 room_1 #[(.int vk), (.int vv), (.long s1), (.long vd), (.int md)] Z h0 (fun v h L => v = some (.int 1) ∧ Fr h0.size L) := by
  refine ConW.of (plainFor_of_name pn_5) ?_
  intro p e s m below meth c s₁ hx hZ hby hml hown hnm hret hlk X0 e0
  refine Ends.cast (ef_0 m vk vv s1 vd md) ?_
  show Ends true p e below s _ _ _ s₁ (mkF m 0 #[.val (.int vk), .val (.int vv), .val (.long s1), .second, .val (.long vd), .second, .val (.int md), .unset, .unset, .unset, .unset, .unset, .unset, .unset, .unset, .unset, .unset, .unset, .unset, .unset, .unset, .unset, .unset, .unset, .unset, .unset] [])
  have O0 := Ok.refl h0 []
  refine E.iloadN (q := 1) X0 hx (hb hby at_0) rfl ?_
  refine E.sipush (q := 4) (v := (255 : Int32)) X0 hx (hb hby at_1) rfl ?_
  refine E.iand (q := 5) X0 hx (hb hby at_4) ?_
  refine E.i2c (q := 6) X0 hx (hb hby at_5) ?_
  obtain ⟨k1, hk1⟩ : ∃ z, z = ((vk &&& (255 : Int32)).toUInt32.toUInt16.toUInt32.toInt32) := ⟨_, rfl⟩
  rw [← hk1]
  have bk1 := own_ch hk1
  refine E.istore (q := 8) (l' := #[.val (.int vk), .val (.int vv), .val (.long s1), .second, .val (.long vd), .second, .val (.int md), .val (.int k1), .unset, .unset, .unset, .unset, .unset, .unset, .unset, .unset, .unset, .unset, .unset, .unset, .unset, .unset, .unset, .unset, .unset, .unset]) X0 hx (hb hby at_6) rfl ?_
  refine E.iload (q := 10) X0 hx (hb hby at_8) rfl ?_
  refine E.iconst (q := 11) (v := (1 : Int32)) X0 hx (hb hby at_10) rfl ?_
  refine E.iand (q := 12) X0 hx (hb hby at_11) ?_
  have Jk2 : ∀ k2 : Int32, own_B k2 ∧ nar .char k2 = k2 → Ends true p e below s (Fl (fun v h L => v = some (.int 1) ∧ Fr h0.size L) 0) room_1.cells room_1.slots s₁ (mkF m 29 #[.val (.int vk), .val (.int vv), .val (.long s1), .second, .val (.long vd), .second, .val (.int md), .val (.int k1), .unset, .unset, .unset, .unset, .unset, .unset, .unset, .unset, .unset, .unset, .unset, .unset, .unset, .unset, .unset, .unset, .unset, .unset] [(.int k2)]) := by
    intro k2 bk2
    show Ends true p e below s _ _ _ s₁ (mkF m 29 #[.val (.int vk), .val (.int vv), .val (.long s1), .second, .val (.long vd), .second, .val (.int md), .val (.int k1), .unset, .unset, .unset, .unset, .unset, .unset, .unset, .unset, .unset, .unset, .unset, .unset, .unset, .unset, .unset, .unset, .unset, .unset] [(.int k2)])
    refine E.istore (q := 31) (l' := #[.val (.int vk), .val (.int vv), .val (.long s1), .second, .val (.long vd), .second, .val (.int md), .val (.int k1), .val (.int k2), .unset, .unset, .unset, .unset, .unset, .unset, .unset, .unset, .unset, .unset, .unset, .unset, .unset, .unset, .unset, .unset, .unset]) X0 hx (hb hby at_29) rfl ?_
    refine E.iloadN (q := 32) X0 hx (hb hby at_31) rfl ?_
    refine E.sipush (q := 35) (v := (255 : Int32)) X0 hx (hb hby at_32) rfl ?_
    refine E.iand (q := 36) X0 hx (hb hby at_35) ?_
    refine E.i2c (q := 37) X0 hx (hb hby at_36) ?_
    obtain ⟨v1a, hv1a⟩ : ∃ z, z = ((vv &&& (255 : Int32)).toUInt32.toUInt16.toUInt32.toInt32) := ⟨_, rfl⟩
    rw [← hv1a]
    have bv1a := own_ch hv1a
    refine E.istore (q := 39) (l' := #[.val (.int vk), .val (.int vv), .val (.long s1), .second, .val (.long vd), .second, .val (.int md), .val (.int k1), .val (.int k2), .val (.int v1a), .unset, .unset, .unset, .unset, .unset, .unset, .unset, .unset, .unset, .unset, .unset, .unset, .unset, .unset, .unset, .unset]) X0 hx (hb hby at_37) rfl ?_
    refine E.iloadN (q := 40) X0 hx (hb hby at_39) rfl ?_
    refine E.bipush (q := 42) (v := (8 : Int32)) X0 hx (hb hby at_40) rfl ?_
    refine E.iushr (q := 43) X0 hx (hb hby at_42) ?_
    refine E.sipush (q := 46) (v := (255 : Int32)) X0 hx (hb hby at_43) rfl ?_
    refine E.iand (q := 47) X0 hx (hb hby at_46) ?_
    refine E.i2c (q := 48) X0 hx (hb hby at_47) ?_
    obtain ⟨v1b, hv1b⟩ : ∃ z, z = ((((vv.toUInt32 >>> ((8 : Int32) &&& 31).toUInt32).toInt32) &&& (255 : Int32)).toUInt32.toUInt16.toUInt32.toInt32) := ⟨_, rfl⟩
    rw [← hv1b]
    have bv1b := own_ch hv1b
    refine E.istore (q := 50) (l' := #[.val (.int vk), .val (.int vv), .val (.long s1), .second, .val (.long vd), .second, .val (.int md), .val (.int k1), .val (.int k2), .val (.int v1a), .val (.int v1b), .unset, .unset, .unset, .unset, .unset, .unset, .unset, .unset, .unset, .unset, .unset, .unset, .unset, .unset, .unset]) X0 hx (hb hby at_48) rfl ?_
    refine E.iload (q := 52) X0 hx (hb hby at_50) rfl ?_
    refine E.iconst (q := 53) (v := (2 : Int32)) X0 hx (hb hby at_52) rfl ?_
    refine E.iand (q := 54) X0 hx (hb hby at_53) ?_
    have Jsv : ∀ sv : Int32, Ends true p e below s (Fl (fun v h L => v = some (.int 1) ∧ Fr h0.size L) 0) room_1.cells room_1.slots s₁ (mkF m 62 #[.val (.int vk), .val (.int vv), .val (.long s1), .second, .val (.long vd), .second, .val (.int md), .val (.int k1), .val (.int k2), .val (.int v1a), .val (.int v1b), .unset, .unset, .unset, .unset, .unset, .unset, .unset, .unset, .unset, .unset, .unset, .unset, .unset, .unset, .unset] [(.int sv)]) := by
      intro sv
      show Ends true p e below s _ _ _ s₁ (mkF m 62 #[.val (.int vk), .val (.int vv), .val (.long s1), .second, .val (.long vd), .second, .val (.int md), .val (.int k1), .val (.int k2), .val (.int v1a), .val (.int v1b), .unset, .unset, .unset, .unset, .unset, .unset, .unset, .unset, .unset, .unset, .unset, .unset, .unset, .unset, .unset] [(.int sv)])
      refine E.istore (q := 64) (l' := #[.val (.int vk), .val (.int vv), .val (.long s1), .second, .val (.long vd), .second, .val (.int md), .val (.int k1), .val (.int k2), .val (.int v1a), .val (.int v1b), .val (.int sv), .unset, .unset, .unset, .unset, .unset, .unset, .unset, .unset, .unset, .unset, .unset, .unset, .unset, .unset]) X0 hx (hb hby at_62) rfl ?_
      refine E.iload (q := 66) X0 hx (hb hby at_64) rfl ?_
      have Jv2a : ∀ v2a : Int32, own_B v2a ∧ nar .char v2a = v2a → Ends true p e below s (Fl (fun v h L => v = some (.int 1) ∧ Fr h0.size L) 0) room_1.cells room_1.slots s₁ (mkF m 83 #[.val (.int vk), .val (.int vv), .val (.long s1), .second, .val (.long vd), .second, .val (.int md), .val (.int k1), .val (.int k2), .val (.int v1a), .val (.int v1b), .val (.int sv), .unset, .unset, .unset, .unset, .unset, .unset, .unset, .unset, .unset, .unset, .unset, .unset, .unset, .unset] [(.int v2a)]) := by
        intro v2a bv2a
        show Ends true p e below s _ _ _ s₁ (mkF m 83 #[.val (.int vk), .val (.int vv), .val (.long s1), .second, .val (.long vd), .second, .val (.int md), .val (.int k1), .val (.int k2), .val (.int v1a), .val (.int v1b), .val (.int sv), .unset, .unset, .unset, .unset, .unset, .unset, .unset, .unset, .unset, .unset, .unset, .unset, .unset, .unset] [(.int v2a)])
        refine E.istore (q := 85) (l' := #[.val (.int vk), .val (.int vv), .val (.long s1), .second, .val (.long vd), .second, .val (.int md), .val (.int k1), .val (.int k2), .val (.int v1a), .val (.int v1b), .val (.int sv), .val (.int v2a), .unset, .unset, .unset, .unset, .unset, .unset, .unset, .unset, .unset, .unset, .unset, .unset, .unset]) X0 hx (hb hby at_83) rfl ?_
        refine E.iload (q := 87) X0 hx (hb hby at_85) rfl ?_
        have Jv2b : ∀ v2b : Int32, own_B v2b ∧ nar .char v2b = v2b → Ends true p e below s (Fl (fun v h L => v = some (.int 1) ∧ Fr h0.size L) 0) room_1.cells room_1.slots s₁ (mkF m 104 #[.val (.int vk), .val (.int vv), .val (.long s1), .second, .val (.long vd), .second, .val (.int md), .val (.int k1), .val (.int k2), .val (.int v1a), .val (.int v1b), .val (.int sv), .val (.int v2a), .unset, .unset, .unset, .unset, .unset, .unset, .unset, .unset, .unset, .unset, .unset, .unset, .unset] [(.int v2b)]) := by
          intro v2b bv2b
          show Ends true p e below s _ _ _ s₁ (mkF m 104 #[.val (.int vk), .val (.int vv), .val (.long s1), .second, .val (.long vd), .second, .val (.int md), .val (.int k1), .val (.int k2), .val (.int v1a), .val (.int v1b), .val (.int sv), .val (.int v2a), .unset, .unset, .unset, .unset, .unset, .unset, .unset, .unset, .unset, .unset, .unset, .unset, .unset] [(.int v2b)])
          refine E.istore (q := 106) (l' := #[.val (.int vk), .val (.int vv), .val (.long s1), .second, .val (.long vd), .second, .val (.int md), .val (.int k1), .val (.int k2), .val (.int v1a), .val (.int v1b), .val (.int sv), .val (.int v2a), .val (.int v2b), .unset, .unset, .unset, .unset, .unset, .unset, .unset, .unset, .unset, .unset, .unset, .unset]) X0 hx (hb hby at_104) rfl ?_
          refine E.iload (q := 108) X0 hx (hb hby at_106) rfl ?_
          refine E.bipush (q := 110) (v := (8 : Int32)) X0 hx (hb hby at_108) rfl ?_
          refine E.iand (q := 111) X0 hx (hb hby at_110) ?_
          have Jsh : ∀ sh : Int32, Ends true p e below s (Fl (fun v h L => v = some (.int 1) ∧ Fr h0.size L) 0) room_1.cells room_1.slots s₁ (mkF m 119 #[.val (.int vk), .val (.int vv), .val (.long s1), .second, .val (.long vd), .second, .val (.int md), .val (.int k1), .val (.int k2), .val (.int v1a), .val (.int v1b), .val (.int sv), .val (.int v2a), .val (.int v2b), .unset, .unset, .unset, .unset, .unset, .unset, .unset, .unset, .unset, .unset, .unset, .unset] [(.int sh)]) := by
            intro sh
            show Ends true p e below s _ _ _ s₁ (mkF m 119 #[.val (.int vk), .val (.int vv), .val (.long s1), .second, .val (.long vd), .second, .val (.int md), .val (.int k1), .val (.int k2), .val (.int v1a), .val (.int v1b), .val (.int sv), .val (.int v2a), .val (.int v2b), .unset, .unset, .unset, .unset, .unset, .unset, .unset, .unset, .unset, .unset, .unset, .unset] [(.int sh)])
            refine E.istore (q := 121) (l' := #[.val (.int vk), .val (.int vv), .val (.long s1), .second, .val (.long vd), .second, .val (.int md), .val (.int k1), .val (.int k2), .val (.int v1a), .val (.int v1b), .val (.int sv), .val (.int v2a), .val (.int v2b), .val (.int sh), .unset, .unset, .unset, .unset, .unset, .unset, .unset, .unset, .unset, .unset, .unset]) X0 hx (hb hby at_119) rfl ?_
            refine E.iload (q := 123) X0 hx (hb hby at_121) rfl ?_
            refine E.iconst (q := 124) (v := (4 : Int32)) X0 hx (hb hby at_123) rfl ?_
            refine E.iand (q := 125) X0 hx (hb hby at_124) ?_
            have Js2 : ∀ s2 : Int64, Ends true p e below s (Fl (fun v h L => v = some (.int 1) ∧ Fr h0.size L) 0) room_1.cells room_1.slots s₁ (mkF m 134 #[.val (.int vk), .val (.int vv), .val (.long s1), .second, .val (.long vd), .second, .val (.int md), .val (.int k1), .val (.int k2), .val (.int v1a), .val (.int v1b), .val (.int sv), .val (.int v2a), .val (.int v2b), .val (.int sh), .unset, .unset, .unset, .unset, .unset, .unset, .unset, .unset, .unset, .unset, .unset] [(.long s2)]) := by
              intro s2
              show Ends true p e below s _ _ _ s₁ (mkF m 134 #[.val (.int vk), .val (.int vv), .val (.long s1), .second, .val (.long vd), .second, .val (.int md), .val (.int k1), .val (.int k2), .val (.int v1a), .val (.int v1b), .val (.int sv), .val (.int v2a), .val (.int v2b), .val (.int sh), .unset, .unset, .unset, .unset, .unset, .unset, .unset, .unset, .unset, .unset, .unset] [(.long s2)])
              refine E.lstore (q := 136) (l' := #[.val (.int vk), .val (.int vv), .val (.long s1), .second, .val (.long vd), .second, .val (.int md), .val (.int k1), .val (.int k2), .val (.int v1a), .val (.int v1b), .val (.int sv), .val (.int v2a), .val (.int v2b), .val (.int sh), .val (.long s2), .second, .unset, .unset, .unset, .unset, .unset, .unset, .unset, .unset, .unset]) X0 hx (hb hby at_134) rfl ?_
              refine E.iload (q := 138) X0 hx (hb hby at_136) rfl ?_
              refine E.iconst (q := 139) (v := (4 : Int32)) X0 hx (hb hby at_138) rfl ?_
              refine E.iushr (q := 140) X0 hx (hb hby at_139) ?_
              refine E.iconst (q := 141) (v := (3 : Int32)) X0 hx (hb hby at_140) rfl ?_
              refine E.iand (q := 142) X0 hx (hb hby at_141) ?_
              obtain ⟨kd, hkd⟩ : ∃ z, z = (((md.toUInt32 >>> ((4 : Int32) &&& 31).toUInt32).toInt32) &&& (3 : Int32)) := ⟨_, rfl⟩
              rw [← hkd]
              refine E.istore (q := 144) (l' := #[.val (.int vk), .val (.int vv), .val (.long s1), .second, .val (.long vd), .second, .val (.int md), .val (.int k1), .val (.int k2), .val (.int v1a), .val (.int v1b), .val (.int sv), .val (.int v2a), .val (.int v2b), .val (.int sh), .val (.long s2), .second, .val (.int kd), .unset, .unset, .unset, .unset, .unset, .unset, .unset, .unset]) X0 hx (hb hby at_142) rfl ?_
              refine E.iconst (q := 145) (v := (2 : Int32)) X0 hx (hb hby at_144) rfl ?_
              refine Ends.newA X0 hx hZ (hw _ (List.mem_of_getElem? (i := 0) rfl)) e0 (hb hby at_145) (N := 2) rfl (by decide) (by decide) (by decide) ?_
              intro T99 h99 b99 g99 X99 e99 E99 A99
              have ge_b99 : h0.size ≤ b99 := Nat.le_trans O0.le (Nat.le_of_eq g99.symm)
              have O99 := O0.ext E99
              have V99 : Ary Z h99 b99 .char [(.int (0 : Int32)), (.int (0 : Int32))] := A99
              refine E.astore (q := 149) (l' := #[.val (.int vk), .val (.int vv), .val (.long s1), .second, .val (.long vd), .second, .val (.int md), .val (.int k1), .val (.int k2), .val (.int v1a), .val (.int v1b), .val (.int sv), .val (.int v2a), .val (.int v2b), .val (.int sh), .val (.long s2), .second, .val (.int kd), .val (.ref b99), .unset, .unset, .unset, .unset, .unset, .unset, .unset]) X99 hx (hb hby at_147) rfl rfl ?_
              refine E.aload (q := 151) X99 hx (hb hby at_149) rfl rfl ?_
              refine E.iconst (q := 152) (v := (0 : Int32)) X99 hx (hb hby at_151) rfl ?_
              refine E.iload (q := 154) X99 hx (hb hby at_152) rfl ?_
              refine Ends.cst X99 hx hZ e99 V99 (x' := v1a) bv1a.2 (i := 0) rfl (show 0 < 2 from by decide) (hb hby at_154) ?_
              intro T100 h100 X100 e100 W100 V100
              have V100 : Ary Z h100 b99 .char [(.int v1a), (.int (0 : Int32))] := V100
              have O100 := O99.wr W100 (Or.inr ge_b99)
              refine E.aload (q := 157) X100 hx (hb hby at_155) rfl rfl ?_
              refine E.iconst (q := 158) (v := (1 : Int32)) X100 hx (hb hby at_157) rfl ?_
              refine E.iload (q := 160) X100 hx (hb hby at_158) rfl ?_
              refine Ends.cst X100 hx hZ e100 V100 (x' := v1b) bv1b.2 (i := 1) rfl (show 1 < 2 from by decide) (hb hby at_160) ?_
              intro T101 h101 X101 e101 W101 V101
              have V101 : Ary Z h101 b99 .char [(.int v1a), (.int v1b)] := V101
              have O101 := O100.wr W101 (Or.inr ge_b99)
              refine E.iconst (q := 162) (v := (2 : Int32)) X101 hx (hb hby at_161) rfl ?_
              refine Ends.newA X101 hx hZ (hw _ (List.mem_of_getElem? (i := 0) rfl)) e101 (hb hby at_162) (N := 2) rfl (by decide) (by decide) (by decide) ?_
              intro T102 h102 b102 g102 X102 e102 E102 A102
              have ge_b102 : h0.size ≤ b102 := Nat.le_trans O101.le (Nat.le_of_eq g102.symm)
              have O102 := O101.ext E102
              have V102 : Ary Z h102 b102 .char [(.int (0 : Int32)), (.int (0 : Int32))] := A102
              refine E.astore (q := 166) (l' := #[.val (.int vk), .val (.int vv), .val (.long s1), .second, .val (.long vd), .second, .val (.int md), .val (.int k1), .val (.int k2), .val (.int v1a), .val (.int v1b), .val (.int sv), .val (.int v2a), .val (.int v2b), .val (.int sh), .val (.long s2), .second, .val (.int kd), .val (.ref b99), .val (.ref b102), .unset, .unset, .unset, .unset, .unset, .unset]) X102 hx (hb hby at_164) rfl rfl ?_
              refine E.aload (q := 168) X102 hx (hb hby at_166) rfl rfl ?_
              refine E.iconst (q := 169) (v := (0 : Int32)) X102 hx (hb hby at_168) rfl ?_
              refine E.iload (q := 171) X102 hx (hb hby at_169) rfl ?_
              refine Ends.cst X102 hx hZ e102 V102 (x' := v2a) bv2a.2 (i := 0) rfl (show 0 < 2 from by decide) (hb hby at_171) ?_
              intro T103 h103 X103 e103 W103 V103
              have V103 : Ary Z h103 b102 .char [(.int v2a), (.int (0 : Int32))] := V103
              have O103 := O102.wr W103 (Or.inr ge_b102)
              refine E.aload (q := 174) X103 hx (hb hby at_172) rfl rfl ?_
              refine E.iconst (q := 175) (v := (1 : Int32)) X103 hx (hb hby at_174) rfl ?_
              refine E.iload (q := 177) X103 hx (hb hby at_175) rfl ?_
              refine Ends.cst X103 hx hZ e103 V103 (x' := v2b) bv2b.2 (i := 1) rfl (show 1 < 2 from by decide) (hb hby at_177) ?_
              intro T104 h104 X104 e104 W104 V104
              have V104 : Ary Z h104 b102 .char [(.int v2a), (.int v2b)] := V104
              have O104 := O103.wr W104 (Or.inr ge_b102)
              refine E.iload (q := 180) X104 hx (hb hby at_178) rfl ?_
              refine Ends.callS X104 hx hZ hown (hw _ (List.mem_of_getElem? (i := 1) rfl)) (hw _ (List.mem_of_getElem? (i := 2) rfl)) (hw _ (List.mem_of_getElem? (i := 3) rfl)) (hw _ (List.mem_of_getElem? (i := 4) rfl)) (by decide) (argsL := [(.int k1)]) (rest := []) e104 (rm1 l Z a0 hw k1 _ bk1.1 cs hcs (own_sta_keep S0 O104.1 own_ns0)) (W := 0) (by decide) (by decide) (by rw [hml]; rfl) (lenOf pd_10 rfl) (Nat.le_of_eq rfl) (hb hby at_180) (by decide) (by decide) rfl ?_
              rintro T105 v105 L105 X105 ⟨a105, U105, rfl, ga105, gU105, nn105, hO105, Ea105, Fv105, Fc105, A105⟩
              have e105 : T105.heap = T105.heap := rfl
              have O105 := O104.call hO105 all0
              show Ends true p e below s _ _ _ T105 (mkF m 183 #[.val (.int vk), .val (.int vv), .val (.long s1), .second, .val (.long vd), .second, .val (.int md), .val (.int k1), .val (.int k2), .val (.int v1a), .val (.int v1b), .val (.int sv), .val (.int v2a), .val (.int v2b), .val (.int sh), .val (.long s2), .second, .val (.int kd), .val (.ref b99), .val (.ref b102), .unset, .unset, .unset, .unset, .unset, .unset] [(.ref a105)])
              refine E.astore (q := 185) (l' := #[.val (.int vk), .val (.int vv), .val (.long s1), .second, .val (.long vd), .second, .val (.int md), .val (.int k1), .val (.int k2), .val (.int v1a), .val (.int v1b), .val (.int sv), .val (.int v2a), .val (.int v2b), .val (.int sh), .val (.long s2), .second, .val (.int kd), .val (.ref b99), .val (.ref b102), .val (.ref a105), .unset, .unset, .unset, .unset, .unset]) X105 hx (hb hby at_183) rfl rfl ?_
              refine E.iload (q := 187) X105 hx (hb hby at_185) rfl ?_
              refine Ends.callS X105 hx hZ hown (hw _ (List.mem_of_getElem? (i := 1) rfl)) (hw _ (List.mem_of_getElem? (i := 2) rfl)) (hw _ (List.mem_of_getElem? (i := 3) rfl)) (hw _ (List.mem_of_getElem? (i := 4) rfl)) (by decide) (argsL := [(.int k2)]) (rest := []) e105 (rm1 l Z a0 hw k2 _ bk2.1 cs hcs (own_sta_keep S0 O105.1 own_ns0)) (W := 0) (by decide) (by decide) (by rw [hml]; rfl) (lenOf pd_10 rfl) (Nat.le_of_eq rfl) (hb hby at_187) (by decide) (by decide) rfl ?_
              rintro T106 v106 L106 X106 ⟨a106, U106, rfl, ga106, gU106, nn106, hO106, Ea106, Fv106, Fc106, A106⟩
              have e106 : T106.heap = T106.heap := rfl
              have O106 := O105.call hO106 all0
              show Ends true p e below s _ _ _ T106 (mkF m 190 #[.val (.int vk), .val (.int vv), .val (.long s1), .second, .val (.long vd), .second, .val (.int md), .val (.int k1), .val (.int k2), .val (.int v1a), .val (.int v1b), .val (.int sv), .val (.int v2a), .val (.int v2b), .val (.int sh), .val (.long s2), .second, .val (.int kd), .val (.ref b99), .val (.ref b102), .val (.ref a105), .unset, .unset, .unset, .unset, .unset] [(.ref a106)])
              refine E.astore (q := 192) (l' := #[.val (.int vk), .val (.int vv), .val (.long s1), .second, .val (.long vd), .second, .val (.int md), .val (.int k1), .val (.int k2), .val (.int v1a), .val (.int v1b), .val (.int sv), .val (.int v2a), .val (.int v2b), .val (.int sh), .val (.long s2), .second, .val (.int kd), .val (.ref b99), .val (.ref b102), .val (.ref a105), .val (.ref a106), .unset, .unset, .unset, .unset]) X106 hx (hb hby at_190) rfl rfl ?_
              refine E.iload (q := 194) X106 hx (hb hby at_192) rfl ?_
              by_cases hsh : sh = (0 : Int32)
              · refine E.ifY (q := 205) X106 hx (hb hby at_194) (XT.i0_eq_t hsh) ?_
                refine Ends.newC X106 hx hZ hown (hw _ (List.mem_of_getElem? (i := 27) rfl)) (hw _ (List.mem_of_getElem? (i := 11) rfl)) (hw _ (List.mem_of_getElem? (i := 3) rfl)) e106 (hb hby at_205) (by decide) (by decide) ?_
                intro T107 h107 b107 g107 X107 e107 E107 A107 D107
                have ge_b107 : h0.size ≤ b107 := Nat.le_trans O106.le (Nat.le_of_eq g107.symm)
                have O107 := O106.ext E107
                have F107_value : Fld Z h107 b107 "java/lang/String" "value" "[B" .null := D107 (Or.inr (hw _ (List.mem_of_getElem? (i := 24) rfl))) (ty := (.array .byte)) (by decide)
                have F107_coder : Fld Z h107 b107 "java/lang/String" "coder" "B" (.int (0 : Int32)) := D107 (Or.inr (hw _ (List.mem_of_getElem? (i := 26) rfl))) (ty := .byte) (by decide)
                refine E.dup (q := 209) X107 hx (hb hby at_208) rfl ?_
                refine E.aload (q := 211) X107 hx (hb hby at_209) rfl rfl ?_
                have f108 := V104.keep hO105.1 nin0
                have f109 := f108.keep hO106.1 nin0
                have f110 := f109.ext E107
                refine Ends.callI X107 hx hZ hown (hw _ (List.mem_of_getElem? (i := 28) rfl)) (hw _ (List.mem_of_getElem? (i := 29) rfl)) (hw _ (List.mem_of_getElem? (i := 3) rfl)) (hw _ (List.mem_of_getElem? (i := 30) rfl)) rfl (by decide) (argsL := [(.ref b102)]) (rest := [(.ref b107)]) e107 (rmI1_2 l Z a0 hw b107 b102 v2a v2b _ bv2a.1 bv2b.1 A107 F107_value F107_coder f110 (Nat.ne_of_lt (Nat.lt_of_lt_of_eq f109.lt g107.symm)) cs hcs (own_sta_keep S0 O107.1 own_ns0)) (W := 1) (by decide) (by decide) (by rw [hml]; rfl) (lenOf pd_11 rfl) (Nat.le_of_eq rfl) (hb hby at_211) (by decide) (by decide) rfl ?_
                rintro T111 v111 L111 X111 ⟨rfl, U111, gU111, hO111, Fv111, Fc111, A111⟩
                have e111 : T111.heap = T111.heap := rfl
                have O111 := O107.call hO111 (allS (Or.inr ge_b107) all0)
                show Ends true p e below s _ _ _ T111 (mkF m 214 #[.val (.int vk), .val (.int vv), .val (.long s1), .second, .val (.long vd), .second, .val (.int md), .val (.int k1), .val (.int k2), .val (.int v1a), .val (.int v1b), .val (.int sv), .val (.int v2a), .val (.int v2b), .val (.int sh), .val (.long s2), .second, .val (.int kd), .val (.ref b99), .val (.ref b102), .val (.ref a105), .val (.ref a106), .unset, .unset, .unset, .unset] [(.ref b107)])
                refine E.astore (q := 216) (l' := #[.val (.int vk), .val (.int vv), .val (.long s1), .second, .val (.long vd), .second, .val (.int md), .val (.int k1), .val (.int k2), .val (.int v1a), .val (.int v1b), .val (.int sv), .val (.int v2a), .val (.int v2b), .val (.int sh), .val (.long s2), .second, .val (.int kd), .val (.ref b99), .val (.ref b102), .val (.ref a105), .val (.ref a106), .val (.ref b107), .unset, .unset, .unset]) X111 hx (hb hby at_214) rfl rfl ?_
                refine Ends.newC X111 hx hZ hown (hw _ (List.mem_of_getElem? (i := 44) rfl)) (hw _ (List.mem_of_getElem? (i := 45) rfl)) (hw _ (List.mem_of_getElem? (i := 46) rfl)) e111 (hb hby at_216) (by decide) (by decide) ?_
                intro T112 h112 b112 g112 X112 e112 E112 A112 D112
                have ge_b112 : h0.size ≤ b112 := Nat.le_trans O111.le (Nat.le_of_eq g112.symm)
                have O112 := O111.ext E112
                have F112_key : Fld Z h112 b112 "com/example/people_in_groups/peopleingroups/model/ExtensionPair" "key" "Ljava/lang/String;" .null := D112 (Or.inr (hw _ (List.mem_of_getElem? (i := 60) rfl))) (ty := (.object "java/lang/String")) (by decide)
                have F112_value : Fld Z h112 b112 "com/example/people_in_groups/peopleingroups/model/ExtensionPair" "value" "Ljava/lang/String;" .null := D112 (Or.inr (hw _ (List.mem_of_getElem? (i := 63) rfl))) (ty := (.object "java/lang/String")) (by decide)
                have F112_seq : Fld Z h112 b112 "com/example/people_in_groups/peopleingroups/model/ExtensionPair" "seq" "J" (.long (0 : Int64)) := D112 (Or.inr (hw _ (List.mem_of_getElem? (i := 65) rfl))) (ty := .long) (by decide)
                refine E.dup (q := 220) X112 hx (hb hby at_219) rfl ?_
                refine E.aload (q := 222) X112 hx (hb hby at_220) rfl rfl ?_
                refine Ends.newC X112 hx hZ hown (hw _ (List.mem_of_getElem? (i := 27) rfl)) (hw _ (List.mem_of_getElem? (i := 11) rfl)) (hw _ (List.mem_of_getElem? (i := 3) rfl)) e112 (hb hby at_222) (by decide) (by decide) ?_
                intro T113 h113 b113 g113 X113 e113 E113 A113 D113
                have ge_b113 : h0.size ≤ b113 := Nat.le_trans O112.le (Nat.le_of_eq g113.symm)
                have O113 := O112.ext E113
                have F113_value : Fld Z h113 b113 "java/lang/String" "value" "[B" .null := D113 (Or.inr (hw _ (List.mem_of_getElem? (i := 24) rfl))) (ty := (.array .byte)) (by decide)
                have F113_coder : Fld Z h113 b113 "java/lang/String" "coder" "B" (.int (0 : Int32)) := D113 (Or.inr (hw _ (List.mem_of_getElem? (i := 26) rfl))) (ty := .byte) (by decide)
                refine E.dup (q := 226) X113 hx (hb hby at_225) rfl ?_
                refine E.aload (q := 228) X113 hx (hb hby at_226) rfl rfl ?_
                have f114 := V101.ext E102
                have f115 := f114.other W103 (Nat.ne_of_lt (Nat.lt_of_lt_of_eq V101.lt g102.symm))
                have f116 := f115.other W104 (Nat.ne_of_lt (Nat.lt_of_lt_of_eq V101.lt g102.symm))
                have f117 := f116.keep hO105.1 nin0
                have f118 := f117.keep hO106.1 nin0
                have f119 := f118.ext E107
                have f120 := f119.keep hO111.1 (ninS (Nat.ne_of_lt (Nat.lt_of_lt_of_eq f118.lt g107.symm)) nin0)
                have f121 := f120.ext E112
                have f122 := f121.ext E113
                refine Ends.callI X113 hx hZ hown (hw _ (List.mem_of_getElem? (i := 28) rfl)) (hw _ (List.mem_of_getElem? (i := 29) rfl)) (hw _ (List.mem_of_getElem? (i := 3) rfl)) (hw _ (List.mem_of_getElem? (i := 30) rfl)) rfl (by decide) (argsL := [(.ref b99)]) (rest := [(.ref b113), (.ref a105), (.ref b112), (.ref b112)]) e113 (rmI1_2 l Z a0 hw b113 b99 v1a v1b _ bv1a.1 bv1b.1 A113 F113_value F113_coder f122 (Nat.ne_of_lt (Nat.lt_of_lt_of_eq f121.lt g113.symm)) cs hcs (own_sta_keep S0 O113.1 own_ns0)) (W := 4) (by decide) (by decide) (by rw [hml]; rfl) (lenOf pd_11 rfl) (Nat.le_of_eq rfl) (hb hby at_228) (by decide) (by decide) rfl ?_
                rintro T123 v123 L123 X123 ⟨rfl, U123, gU123, hO123, Fv123, Fc123, A123⟩
                have e123 : T123.heap = T123.heap := rfl
                have O123 := O113.call hO123 (allS (Or.inr ge_b113) all0)
                show Ends true p e below s _ _ _ T123 (mkF m 231 #[.val (.int vk), .val (.int vv), .val (.long s1), .second, .val (.long vd), .second, .val (.int md), .val (.int k1), .val (.int k2), .val (.int v1a), .val (.int v1b), .val (.int sv), .val (.int v2a), .val (.int v2b), .val (.int sh), .val (.long s2), .second, .val (.int kd), .val (.ref b99), .val (.ref b102), .val (.ref a105), .val (.ref a106), .val (.ref b107), .unset, .unset, .unset] [(.ref b113), (.ref a105), (.ref b112), (.ref b112)])
                refine E.lloadN (q := 232) X123 hx (hb hby at_231) rfl ?_
                have f124 := A112.ext E113
                have f125 := f124.keep hO123.1
                have f126 := F112_key.ext E113
                have f127 := f126.keep hO123.1 (ninS (Nat.ne_of_lt (Nat.lt_of_lt_of_eq A112.lt g113.symm)) nin0)
                have f128 := F112_value.ext E113
                have f129 := f128.keep hO123.1 (ninS (Nat.ne_of_lt (Nat.lt_of_lt_of_eq A112.lt g113.symm)) nin0)
                have f130 := F112_seq.ext E113
                have f131 := f130.keep hO123.1 (ninS (Nat.ne_of_lt (Nat.lt_of_lt_of_eq A112.lt g113.symm)) nin0)
                have f132 := Ea105.keep hO106.1
                have f133 := f132.ext E107
                have f134 := f133.keep hO111.1
                have f135 := f134.ext E112
                have f136 := f135.ext E113
                have f137 := f136.keep hO123.1
                have f138 := A113.keep hO123.1
                refine Ends.callIW X123 hx hZ hown (hw _ (List.mem_of_getElem? (i := 47) rfl)) (hw _ (List.mem_of_getElem? (i := 48) rfl)) (hw _ (List.mem_of_getElem? (i := 46) rfl)) (hw _ (List.mem_of_getElem? (i := 49) rfl)) rfl (by decide) (argsL := [(.ref a105), (.ref b113), (.long s1)]) (rest := [(.ref b112)]) e123 (Nat.zero_le _) (rm11 l Z a0 hw b112 a105 b113 s1 _ f125 f127 f129 f131 f137 f138) (W := 1) (by decide) (by decide) (by rw [hml]; rfl) (lenOf pd_12 rfl) (Nat.le_of_eq rfl) (hb hby at_232) (by decide) (by decide) rfl ?_
                rintro s T139 v139 L139 X139 hZ hown ⟨rfl, hO139, Fk139, Fv139, Fs139⟩
                have e139 : T139.heap = T139.heap := rfl
                have O139 := O123.call hO139 (allS (Or.inr ge_b112) all0)
                show Ends true p e below s _ _ _ T139 (mkF m 235 #[.val (.int vk), .val (.int vv), .val (.long s1), .second, .val (.long vd), .second, .val (.int md), .val (.int k1), .val (.int k2), .val (.int v1a), .val (.int v1b), .val (.int sv), .val (.int v2a), .val (.int v2b), .val (.int sh), .val (.long s2), .second, .val (.int kd), .val (.ref b99), .val (.ref b102), .val (.ref a105), .val (.ref a106), .val (.ref b107), .unset, .unset, .unset] [(.ref b112)])
                refine E.astore (q := 237) (l' := #[.val (.int vk), .val (.int vv), .val (.long s1), .second, .val (.long vd), .second, .val (.int md), .val (.int k1), .val (.int k2), .val (.int v1a), .val (.int v1b), .val (.int sv), .val (.int v2a), .val (.int v2b), .val (.int sh), .val (.long s2), .second, .val (.int kd), .val (.ref b99), .val (.ref b102), .val (.ref a105), .val (.ref a106), .val (.ref b107), .val (.ref b112), .unset, .unset]) X139 hx (hb hby at_235) rfl rfl ?_
                refine Ends.newC X139 hx hZ hown (hw _ (List.mem_of_getElem? (i := 44) rfl)) (hw _ (List.mem_of_getElem? (i := 45) rfl)) (hw _ (List.mem_of_getElem? (i := 46) rfl)) e139 (hb hby at_237) (by decide) (by decide) ?_
                intro T140 h140 b140 g140 X140 e140 E140 A140 D140
                have ge_b140 : h0.size ≤ b140 := Nat.le_trans O139.le (Nat.le_of_eq g140.symm)
                have O140 := O139.ext E140
                have F140_key : Fld Z h140 b140 "com/example/people_in_groups/peopleingroups/model/ExtensionPair" "key" "Ljava/lang/String;" .null := D140 (Or.inr (hw _ (List.mem_of_getElem? (i := 60) rfl))) (ty := (.object "java/lang/String")) (by decide)
                have F140_value : Fld Z h140 b140 "com/example/people_in_groups/peopleingroups/model/ExtensionPair" "value" "Ljava/lang/String;" .null := D140 (Or.inr (hw _ (List.mem_of_getElem? (i := 63) rfl))) (ty := (.object "java/lang/String")) (by decide)
                have F140_seq : Fld Z h140 b140 "com/example/people_in_groups/peopleingroups/model/ExtensionPair" "seq" "J" (.long (0 : Int64)) := D140 (Or.inr (hw _ (List.mem_of_getElem? (i := 65) rfl))) (ty := .long) (by decide)
                refine E.dup (q := 241) X140 hx (hb hby at_240) rfl ?_
                refine E.aload (q := 243) X140 hx (hb hby at_241) rfl rfl ?_
                refine E.aload (q := 245) X140 hx (hb hby at_243) rfl rfl ?_
                refine E.lload (q := 247) X140 hx (hb hby at_245) rfl ?_
                have f141 := Ea106.ext E107
                have f142 := f141.keep hO111.1
                have f143 := f142.ext E112
                have f144 := f143.ext E113
                have f145 := f144.keep hO123.1
                have f146 := f145.keep hO139.1
                have f147 := f146.ext E140
                have f148 := A107.keep hO111.1
                have f149 := f148.ext E112
                have f150 := f149.ext E113
                have f151 := f150.keep hO123.1
                have f152 := f151.keep hO139.1
                have f153 := f152.ext E140
                refine Ends.callIW X140 hx hZ hown (hw _ (List.mem_of_getElem? (i := 47) rfl)) (hw _ (List.mem_of_getElem? (i := 48) rfl)) (hw _ (List.mem_of_getElem? (i := 46) rfl)) (hw _ (List.mem_of_getElem? (i := 49) rfl)) rfl (by decide) (argsL := [(.ref a106), (.ref b107), (.long s2)]) (rest := [(.ref b140)]) e140 (Nat.le_trans (Nat.le_refl _) E140.1) (rm11 l Z a0 hw b140 a106 b107 s2 _ A140 F140_key F140_value F140_seq f147 f153) (W := 1) (by decide) (by decide) (by rw [hml]; rfl) (lenOf pd_12 rfl) (Nat.le_of_eq rfl) (hb hby at_247) (by decide) (by decide) rfl ?_
                rintro s T154 v154 L154 X154 hZ hown ⟨rfl, hO154, Fk154, Fv154, Fs154⟩
                have e154 : T154.heap = T154.heap := rfl
                have O154 := O140.call hO154 (allS (Or.inr ge_b140) all0)
                show Ends true p e below s _ _ _ T154 (mkF m 250 #[.val (.int vk), .val (.int vv), .val (.long s1), .second, .val (.long vd), .second, .val (.int md), .val (.int k1), .val (.int k2), .val (.int v1a), .val (.int v1b), .val (.int sv), .val (.int v2a), .val (.int v2b), .val (.int sh), .val (.long s2), .second, .val (.int kd), .val (.ref b99), .val (.ref b102), .val (.ref a105), .val (.ref a106), .val (.ref b107), .val (.ref b112), .unset, .unset] [(.ref b140)])
                refine E.astore (q := 252) (l' := #[.val (.int vk), .val (.int vv), .val (.long s1), .second, .val (.long vd), .second, .val (.int md), .val (.int k1), .val (.int k2), .val (.int v1a), .val (.int v1b), .val (.int sv), .val (.int v2a), .val (.int v2b), .val (.int sh), .val (.long s2), .second, .val (.int kd), .val (.ref b99), .val (.ref b102), .val (.ref a105), .val (.ref a106), .val (.ref b107), .val (.ref b112), .val (.ref b140), .unset]) X154 hx (hb hby at_250) rfl rfl ?_
                refine E.iload (q := 254) X154 hx (hb hby at_252) rfl ?_
                by_cases hz : kd = (0 : Int32)
                · refine E.ifN (q := 257) X154 hx (hb hby at_254) (XT.i0_ne_f hz) ?_
                  have Jx : ∀ xv : Int32, xv = (if [k1.toInt8.toInt32] = [k2.toInt8.toInt32] ∧ [v1a.toInt8.toInt32, v1b.toInt8.toInt32] = [v2a.toInt8.toInt32, v2b.toInt8.toInt32] ∧ s1 = s2 then (1 : Int32) else 0) → Ends true p e below s (Fl (fun v h L => v = some (.int 1) ∧ Fr h0.size L) T154.heap.size) room_1.cells room_1.slots T154 (mkF m 295 #[.val (.int vk), .val (.int vv), .val (.long s1), .second, .val (.long vd), .second, .val (.int md), .val (.int k1), .val (.int k2), .val (.int v1a), .val (.int v1b), .val (.int sv), .val (.int v2a), .val (.int v2b), .val (.int sh), .val (.long s2), .second, .val (.int kd), .val (.ref b99), .val (.ref b102), .val (.ref a105), .val (.ref a106), .val (.ref b107), .val (.ref b112), .val (.ref b140), .unset] [(.int xv)]) := by
                    intro xv hxv
                    show Ends true p e below s _ _ _ T154 (mkF m 295 #[.val (.int vk), .val (.int vv), .val (.long s1), .second, .val (.long vd), .second, .val (.int md), .val (.int k1), .val (.int k2), .val (.int v1a), .val (.int v1b), .val (.int sv), .val (.int v2a), .val (.int v2b), .val (.int sh), .val (.long s2), .second, .val (.int kd), .val (.ref b99), .val (.ref b102), .val (.ref a105), .val (.ref a106), .val (.ref b107), .val (.ref b112), .val (.ref b140), .unset] [(.int xv)])
                    refine E.istore (q := 297) (l' := #[.val (.int vk), .val (.int vv), .val (.long s1), .second, .val (.long vd), .second, .val (.int md), .val (.int k1), .val (.int k2), .val (.int v1a), .val (.int v1b), .val (.int sv), .val (.int v2a), .val (.int v2b), .val (.int sh), .val (.long s2), .second, .val (.int kd), .val (.ref b99), .val (.ref b102), .val (.ref a105), .val (.ref a106), .val (.ref b107), .val (.ref b112), .val (.ref b140), .val (.int xv)]) X154 hx (hb hby at_295) rfl ?_
                    refine E.aload (q := 299) X154 hx (hb hby at_297) rfl rfl ?_
                    refine E.aload (q := 301) X154 hx (hb hby at_299) rfl rfl ?_
                    have f155 := A140.keep hO154.1
                    have f156 := Fk139.ext E140
                    have f157 := f125.keep hO139.1
                    have f158 := f156.keep hO154.1 (ninS (Nat.ne_of_lt (Nat.lt_of_lt_of_eq f157.lt g140.symm)) nin0)
                    have f159 := Fv139.ext E140
                    have f160 := f159.keep hO154.1 (ninS (Nat.ne_of_lt (Nat.lt_of_lt_of_eq f157.lt g140.symm)) nin0)
                    have f161 := Fs139.ext E140
                    have f162 := f161.keep hO154.1 (ninS (Nat.ne_of_lt (Nat.lt_of_lt_of_eq f157.lt g140.symm)) nin0)
                    have f163 := f137.keep hO139.1
                    have f164 := f163.ext E140
                    have f165 := f164.keep hO154.1
                    have f166 := Fv105.keep hO106.1 nin0
                    have f167 := f166.ext E107
                    have f168 := f167.keep hO111.1 (ninS (Nat.ne_of_lt (Nat.lt_of_lt_of_eq f132.lt g107.symm)) nin0)
                    have f169 := f168.ext E112
                    have f170 := f169.ext E113
                    have f171 := f170.keep hO123.1 (ninS (Nat.ne_of_lt (Nat.lt_of_lt_of_eq f135.lt g113.symm)) nin0)
                    have f172 := f171.keep hO139.1 (ninS (Nat.ne_of_lt (Nat.lt_of_lt_of_eq f134.lt g112.symm)) nin0)
                    have f173 := f172.ext E140
                    have f174 := f173.keep hO154.1 (ninS (Nat.ne_of_lt (Nat.lt_of_lt_of_eq f163.lt g140.symm)) nin0)
                    have f175 := Fc105.keep hO106.1 nin0
                    have f176 := f175.ext E107
                    have f177 := f176.keep hO111.1 (ninS (Nat.ne_of_lt (Nat.lt_of_lt_of_eq f132.lt g107.symm)) nin0)
                    have f178 := f177.ext E112
                    have f179 := f178.ext E113
                    have f180 := f179.keep hO123.1 (ninS (Nat.ne_of_lt (Nat.lt_of_lt_of_eq f135.lt g113.symm)) nin0)
                    have f181 := f180.keep hO139.1 (ninS (Nat.ne_of_lt (Nat.lt_of_lt_of_eq f134.lt g112.symm)) nin0)
                    have f182 := f181.ext E140
                    have f183 := f182.keep hO154.1 (ninS (Nat.ne_of_lt (Nat.lt_of_lt_of_eq f163.lt g140.symm)) nin0)
                    have f184 := A105.keep hO106.1 nin0
                    have f185 := f184.ext E107
                    have f186 := f185.keep hO111.1 (ninS (Nat.ne_of_lt (Nat.lt_of_lt_of_eq f184.lt g107.symm)) nin0)
                    have f187 := f186.ext E112
                    have f188 := f187.ext E113
                    have f189 := f188.keep hO123.1 (ninS (Nat.ne_of_lt (Nat.lt_of_lt_of_eq f187.lt g113.symm)) nin0)
                    have f190 := f189.keep hO139.1 (ninS (Nat.ne_of_lt (Nat.lt_of_lt_of_eq f186.lt g112.symm)) nin0)
                    have f191 := f190.ext E140
                    have f192 := f191.keep hO154.1 (ninS (Nat.ne_of_lt (Nat.lt_of_lt_of_eq f190.lt g140.symm)) nin0)
                    have f193 := f138.keep hO139.1
                    have f194 := f193.ext E140
                    have f195 := f194.keep hO154.1
                    have f196 := Fv123.keep hO139.1 (ninS (Ne.symm (Nat.ne_of_lt (Nat.lt_of_lt_of_eq A112.lt g113.symm))) nin0)
                    have f197 := f196.ext E140
                    have f198 := f197.keep hO154.1 (ninS (Nat.ne_of_lt (Nat.lt_of_lt_of_eq f193.lt g140.symm)) nin0)
                    have f199 := Fc123.keep hO139.1 (ninS (Ne.symm (Nat.ne_of_lt (Nat.lt_of_lt_of_eq A112.lt g113.symm))) nin0)
                    have f200 := f199.ext E140
                    have f201 := f200.keep hO154.1 (ninS (Nat.ne_of_lt (Nat.lt_of_lt_of_eq f193.lt g140.symm)) nin0)
                    have f202 := A123.keep hO139.1 (ninS (Ne.symm (Nat.ne_of_lt (Nat.lt_of_lt_of_le f124.lt gU123))) nin0)
                    have f203 := f202.ext E140
                    have f204 := f203.keep hO154.1 (ninS (Nat.ne_of_lt (Nat.lt_of_lt_of_eq f202.lt g140.symm)) nin0)
                    have f205 := f147.keep hO154.1
                    have f206 := Fv106.ext E107
                    have f207 := f206.keep hO111.1 (ninS (Nat.ne_of_lt (Nat.lt_of_lt_of_eq Ea106.lt g107.symm)) nin0)
                    have f208 := f207.ext E112
                    have f209 := f208.ext E113
                    have f210 := f209.keep hO123.1 (ninS (Nat.ne_of_lt (Nat.lt_of_lt_of_eq f143.lt g113.symm)) nin0)
                    have f211 := f210.keep hO139.1 (ninS (Nat.ne_of_lt (Nat.lt_of_lt_of_eq f142.lt g112.symm)) nin0)
                    have f212 := f211.ext E140
                    have f213 := f212.keep hO154.1 (ninS (Nat.ne_of_lt (Nat.lt_of_lt_of_eq f146.lt g140.symm)) nin0)
                    have f214 := Fc106.ext E107
                    have f215 := f214.keep hO111.1 (ninS (Nat.ne_of_lt (Nat.lt_of_lt_of_eq Ea106.lt g107.symm)) nin0)
                    have f216 := f215.ext E112
                    have f217 := f216.ext E113
                    have f218 := f217.keep hO123.1 (ninS (Nat.ne_of_lt (Nat.lt_of_lt_of_eq f143.lt g113.symm)) nin0)
                    have f219 := f218.keep hO139.1 (ninS (Nat.ne_of_lt (Nat.lt_of_lt_of_eq f142.lt g112.symm)) nin0)
                    have f220 := f219.ext E140
                    have f221 := f220.keep hO154.1 (ninS (Nat.ne_of_lt (Nat.lt_of_lt_of_eq f146.lt g140.symm)) nin0)
                    have f222 := A106.ext E107
                    have f223 := f222.keep hO111.1 (ninS (Nat.ne_of_lt (Nat.lt_of_lt_of_eq A106.lt g107.symm)) nin0)
                    have f224 := f223.ext E112
                    have f225 := f224.ext E113
                    have f226 := f225.keep hO123.1 (ninS (Nat.ne_of_lt (Nat.lt_of_lt_of_eq f224.lt g113.symm)) nin0)
                    have f227 := f226.keep hO139.1 (ninS (Nat.ne_of_lt (Nat.lt_of_lt_of_eq f223.lt g112.symm)) nin0)
                    have f228 := f227.ext E140
                    have f229 := f228.keep hO154.1 (ninS (Nat.ne_of_lt (Nat.lt_of_lt_of_eq f227.lt g140.symm)) nin0)
                    have f230 := f153.keep hO154.1
                    have f231 := Fv111.ext E112
                    have f232 := f231.ext E113
                    have f233 := f232.keep hO123.1 (ninS (Nat.ne_of_lt (Nat.lt_of_lt_of_eq f149.lt g113.symm)) nin0)
                    have f234 := f233.keep hO139.1 (ninS (Nat.ne_of_lt (Nat.lt_of_lt_of_eq f148.lt g112.symm)) nin0)
                    have f235 := f234.ext E140
                    have f236 := f235.keep hO154.1 (ninS (Nat.ne_of_lt (Nat.lt_of_lt_of_eq f152.lt g140.symm)) nin0)
                    have f237 := Fc111.ext E112
                    have f238 := f237.ext E113
                    have f239 := f238.keep hO123.1 (ninS (Nat.ne_of_lt (Nat.lt_of_lt_of_eq f149.lt g113.symm)) nin0)
                    have f240 := f239.keep hO139.1 (ninS (Nat.ne_of_lt (Nat.lt_of_lt_of_eq f148.lt g112.symm)) nin0)
                    have f241 := f240.ext E140
                    have f242 := f241.keep hO154.1 (ninS (Nat.ne_of_lt (Nat.lt_of_lt_of_eq f152.lt g140.symm)) nin0)
                    have f243 := A111.ext E112
                    have f244 := f243.ext E113
                    have f245 := f244.keep hO123.1 (ninS (Nat.ne_of_lt (Nat.lt_of_lt_of_eq f243.lt g113.symm)) nin0)
                    have f246 := f245.keep hO139.1 (ninS (Nat.ne_of_lt (Nat.lt_of_lt_of_eq A111.lt g112.symm)) nin0)
                    have f247 := f246.ext E140
                    have f248 := f247.keep hO154.1 (ninS (Nat.ne_of_lt (Nat.lt_of_lt_of_eq f246.lt g140.symm)) nin0)
                    have f249 := f157.ext E140
                    have f250 := f249.keep hO154.1
                    refine Ends.callV X154 hx hZ hown (hw _ (List.mem_of_getElem? (i := 66) rfl)) (hw _ (List.mem_of_getElem? (i := 67) rfl)) (hw _ (List.mem_of_getElem? (i := 69) rfl)) (hw _ (List.mem_of_getElem? (i := 68) rfl)) (hw _ (List.mem_of_getElem? (i := 46) rfl)) (hw _ (List.mem_of_getElem? (i := 70) rfl)) (by decide) (argsL := [(.ref b140)]) (rest := []) e154 f250 (rm13 l Z a0 hw b112 b140 a105 b113 a106 b107 U105 U123 U106 U111 s1 s2 [k1.toInt8.toInt32] [v1a.toInt8.toInt32, v1b.toInt8.toInt32] [k2.toInt8.toInt32] [v2a.toInt8.toInt32, v2b.toInt8.toInt32] _ f155 f158 f160 f162 Fk154 Fv154 Fs154 f165 f174 f183 f192 f195 f198 f201 f204 f205 f213 f221 f229 f230 f236 f242 f248 (Nat.ne_of_lt (Nat.lt_of_lt_of_le Ea105.lt ga106)) (Ne.symm (Nat.ne_of_lt (Nat.lt_of_lt_of_eq f149.lt g113.symm))) cs hcs (own_sta_keep S0 O154.1 own_ns0)) (W := 0) (by decide) (by decide) (by rw [hml]; rfl) (lenOf pd_9 rfl) (Nat.le_of_eq rfl) (hb hby at_301) (by decide) (by decide) rfl ?_
                    rintro T251 v251 L251 X251 ⟨rfl, e251, rfl⟩
                    rw [List.append_nil] at X251
                    show Ends true p e below s _ _ _ T251 (mkF m 304 #[.val (.int vk), .val (.int vv), .val (.long s1), .second, .val (.long vd), .second, .val (.int md), .val (.int k1), .val (.int k2), .val (.int v1a), .val (.int v1b), .val (.int sv), .val (.int v2a), .val (.int v2b), .val (.int sh), .val (.long s2), .second, .val (.int kd), .val (.ref b99), .val (.ref b102), .val (.ref a105), .val (.ref a106), .val (.ref b107), .val (.ref b112), .val (.ref b140), .val (.int xv)] [(.int (if [k1.toInt8.toInt32] = [k2.toInt8.toInt32] ∧ [v1a.toInt8.toInt32, v1b.toInt8.toInt32] = [v2a.toInt8.toInt32, v2b.toInt8.toInt32] ∧ s1 = s2 then (1 : Int32) else 0))])
                    refine E.iload (q := 306) X251 hx (hb hby at_304) rfl ?_
                    refine E.icmpN (q := 309) X251 hx (hb hby at_306) (XT.ii_ne_f hxv.symm) ?_
                    refine E.aload (q := 311) X251 hx (hb hby at_309) rfl rfl ?_
                    refine E.aload (q := 313) X251 hx (hb hby at_311) rfl rfl ?_
                    refine Ends.callV X251 hx hZ hown (hw _ (List.mem_of_getElem? (i := 66) rfl)) (hw _ (List.mem_of_getElem? (i := 67) rfl)) (hw _ (List.mem_of_getElem? (i := 69) rfl)) (hw _ (List.mem_of_getElem? (i := 68) rfl)) (hw _ (List.mem_of_getElem? (i := 46) rfl)) (hw _ (List.mem_of_getElem? (i := 70) rfl)) (by decide) (argsL := [(.ref b112)]) (rest := []) e251 f155 (rm13 l Z a0 hw b140 b112 a106 b107 a105 b113 U106 U111 U105 U123 s2 s1 [k2.toInt8.toInt32] [v2a.toInt8.toInt32, v2b.toInt8.toInt32] [k1.toInt8.toInt32] [v1a.toInt8.toInt32, v1b.toInt8.toInt32] _ f250 Fk154 Fv154 Fs154 f158 f160 f162 f205 f213 f221 f229 f230 f236 f242 f248 f165 f174 f183 f192 f195 f198 f201 f204 (Ne.symm (Nat.ne_of_lt (Nat.lt_of_lt_of_le Ea105.lt ga106))) (Nat.ne_of_lt (Nat.lt_of_lt_of_eq f149.lt g113.symm)) cs hcs (own_sta_keep S0 O154.1 own_ns0)) (W := 0) (by decide) (by decide) (by rw [hml]; rfl) (lenOf pd_9 rfl) (Nat.le_of_eq rfl) (hb hby at_313) (by decide) (by decide) rfl ?_
                    rintro T252 v252 L252 X252 ⟨rfl, e252, rfl⟩
                    rw [List.append_nil] at X252
                    show Ends true p e below s _ _ _ T252 (mkF m 316 #[.val (.int vk), .val (.int vv), .val (.long s1), .second, .val (.long vd), .second, .val (.int md), .val (.int k1), .val (.int k2), .val (.int v1a), .val (.int v1b), .val (.int sv), .val (.int v2a), .val (.int v2b), .val (.int sh), .val (.long s2), .second, .val (.int kd), .val (.ref b99), .val (.ref b102), .val (.ref a105), .val (.ref a106), .val (.ref b107), .val (.ref b112), .val (.ref b140), .val (.int xv)] [(.int (if [k2.toInt8.toInt32] = [k1.toInt8.toInt32] ∧ [v2a.toInt8.toInt32, v2b.toInt8.toInt32] = [v1a.toInt8.toInt32, v1b.toInt8.toInt32] ∧ s2 = s1 then (1 : Int32) else 0))])
                    refine E.iload (q := 318) X252 hx (hb hby at_316) rfl ?_
                    refine E.icmpN (q := 321) X252 hx (hb hby at_318) (XT.ii_ne_f (by rw [hxv]; exact own_sw)) ?_
                    refine E.iconst (q := 322) (v := (1 : Int32)) X252 hx (hb hby at_321) rfl ?_
                    refine E.goto (q := 326) X252 hx (hb hby at_322) ?_
                    exact Ends.retS X252 hx hlk hret (by simp) rfl (hb hby at_326) (by decide) (by decide) ⟨⟨rfl, (O154).fr⟩, by first | exact (Nat.le_refl _) | (rw [e252]; exact (Nat.le_refl _))⟩
                  refine E.iload (q := 259) X154 hx (hb hby at_257) rfl ?_
                  refine E.iload (q := 261) X154 hx (hb hby at_259) rfl ?_
                  by_cases hk : k1 = k2
                  · refine E.icmpN (q := 264) X154 hx (hb hby at_261) (XT.ii_ne_f hk) ?_
                    refine E.iload (q := 266) X154 hx (hb hby at_264) rfl ?_
                    refine E.ifN (q := 269) X154 hx (hb hby at_266) (XT.i0_ne_f hsh) ?_
                    refine E.iload (q := 271) X154 hx (hb hby at_269) rfl ?_
                    refine E.iload (q := 273) X154 hx (hb hby at_271) rfl ?_
                    by_cases ha : v1a = v2a
                    · refine E.icmpN (q := 276) X154 hx (hb hby at_273) (XT.ii_ne_f ha) ?_
                      refine E.iload (q := 278) X154 hx (hb hby at_276) rfl ?_
                      refine E.iload (q := 280) X154 hx (hb hby at_278) rfl ?_
                      by_cases hbb : v1b = v2b
                      · refine E.icmpN (q := 283) X154 hx (hb hby at_280) (XT.ii_ne_f hbb) ?_
                        refine E.lloadN (q := 284) X154 hx (hb hby at_283) rfl ?_
                        refine E.lload (q := 286) X154 hx (hb hby at_284) rfl ?_
                        refine E.lcmp (q := 287) X154 hx (hb hby at_286) ?_
                        by_cases hs : s1 = s2
                        · refine E.ifN (q := 290) X154 hx (hb hby at_287) (XT.i0_ne_f ((lw_eq _ _).mpr hs)) ?_
                          refine E.iconst (q := 291) (v := (1 : Int32)) X154 hx (hb hby at_290) rfl ?_
                          refine E.goto (q := 295) X154 hx (hb hby at_291) ?_
                          exact Jx _ (by rw [if_pos ((own_R2 bk1.1 bk2.1 bv1a.1 bv1b.1 bv2a.1 bv2b.1).mpr ⟨hk, ha, hbb, hs⟩)])
                        · refine E.ifY (q := 294) X154 hx (hb hby at_287) (XT.i0_ne_t (fun q => hs ((lw_eq _ _).mp q))) ?_
                          refine E.iconst (q := 295) (v := (0 : Int32)) X154 hx (hb hby at_294) rfl ?_
                          exact Jx _ (by rw [if_neg (fun q => hs ((own_R2 bk1.1 bk2.1 bv1a.1 bv1b.1 bv2a.1 bv2b.1).mp q).2.2.2)])
                      · refine E.icmpY (q := 294) X154 hx (hb hby at_280) (XT.ii_ne_t hbb) ?_
                        refine E.iconst (q := 295) (v := (0 : Int32)) X154 hx (hb hby at_294) rfl ?_
                        exact Jx _ (by rw [if_neg (fun q => hbb ((own_R2 bk1.1 bk2.1 bv1a.1 bv1b.1 bv2a.1 bv2b.1).mp q).2.2.1)])
                    · refine E.icmpY (q := 294) X154 hx (hb hby at_273) (XT.ii_ne_t ha) ?_
                      refine E.iconst (q := 295) (v := (0 : Int32)) X154 hx (hb hby at_294) rfl ?_
                      exact Jx _ (by rw [if_neg (fun q => ha ((own_R2 bk1.1 bk2.1 bv1a.1 bv1b.1 bv2a.1 bv2b.1).mp q).2.1)])
                  · refine E.icmpY (q := 294) X154 hx (hb hby at_261) (XT.ii_ne_t hk) ?_
                    refine E.iconst (q := 295) (v := (0 : Int32)) X154 hx (hb hby at_294) rfl ?_
                    exact Jx _ (by rw [if_neg (fun q => hk ((own_R2 bk1.1 bk2.1 bv1a.1 bv1b.1 bv2a.1 bv2b.1).mp q).1)])
                · refine E.ifY (q := 327) X154 hx (hb hby at_254) (XT.i0_ne_t hz) ?_
                  refine E.iload (q := 329) X154 hx (hb hby at_327) rfl ?_
                  refine E.iconst (q := 330) (v := (1 : Int32)) X154 hx (hb hby at_329) rfl ?_
                  by_cases h1 : kd = (1 : Int32)
                  · refine E.icmpN (q := 333) X154 hx (hb hby at_330) (XT.ii_ne_f h1) ?_
                    refine E.aconstNull (q := 334) X154 hx (hb hby at_333) ?_
                    refine E.astore (q := 336) (l' := #[.val (.int vk), .val (.int vv), .val (.long s1), .second, .val (.long vd), .second, .val (.int md), .val (.int k1), .val (.int k2), .val (.int v1a), .val (.int v1b), .val (.int sv), .val (.int v2a), .val (.int v2b), .val (.int sh), .val (.long s2), .second, .val (.int kd), .val (.ref b99), .val (.ref b102), .val (.ref a105), .val (.ref a106), .val (.ref b107), .val (.ref b112), .val (.ref b140), .val .null]) X154 hx (hb hby at_334) rfl rfl ?_
                    refine E.aload (q := 338) X154 hx (hb hby at_336) rfl rfl ?_
                    refine E.aload (q := 340) X154 hx (hb hby at_338) rfl rfl ?_
                    have f253 := f125.keep hO139.1
                    have f254 := f253.ext E140
                    have f255 := f254.keep hO154.1
                    refine Ends.callV X154 hx hZ hown (hw _ (List.mem_of_getElem? (i := 66) rfl)) (hw _ (List.mem_of_getElem? (i := 67) rfl)) (hw _ (List.mem_of_getElem? (i := 69) rfl)) (hw _ (List.mem_of_getElem? (i := 68) rfl)) (hw _ (List.mem_of_getElem? (i := 46) rfl)) (hw _ (List.mem_of_getElem? (i := 70) rfl)) (by decide) (argsL := [.null]) (rest := []) e154 f255 (rmEn l Z a0 hw b112 _) (W := 0) (by decide) (by decide) (by rw [hml]; rfl) (lenOf pd_9 rfl) (Nat.le_of_eq rfl) (hb hby at_340) (by decide) (by decide) rfl ?_
                    rintro T256 v256 L256 X256 ⟨rfl, e256, rfl⟩
                    rw [List.append_nil] at X256
                    show Ends true p e below s _ _ _ T256 (mkF m 343 #[.val (.int vk), .val (.int vv), .val (.long s1), .second, .val (.long vd), .second, .val (.int md), .val (.int k1), .val (.int k2), .val (.int v1a), .val (.int v1b), .val (.int sv), .val (.int v2a), .val (.int v2b), .val (.int sh), .val (.long s2), .second, .val (.int kd), .val (.ref b99), .val (.ref b102), .val (.ref a105), .val (.ref a106), .val (.ref b107), .val (.ref b112), .val (.ref b140), .val .null] [(.int (0 : Int32))])
                    refine E.ifN (q := 346) X256 hx (hb hby at_343) (XT.i0_ne_f (by decide)) ?_
                    refine E.iconst (q := 347) (v := (1 : Int32)) X256 hx (hb hby at_346) rfl ?_
                    refine E.goto (q := 351) X256 hx (hb hby at_347) ?_
                    exact Ends.retS X256 hx hlk hret (by simp) rfl (hb hby at_351) (by decide) (by decide) ⟨⟨rfl, (O154).fr⟩, by first | exact (Nat.le_refl _) | (rw [e256]; exact (Nat.le_refl _))⟩
                  · refine E.icmpY (q := 352) X154 hx (hb hby at_330) (XT.ii_ne_t h1) ?_
                    refine E.iload (q := 354) X154 hx (hb hby at_352) rfl ?_
                    refine E.iconst (q := 355) (v := (2 : Int32)) X154 hx (hb hby at_354) rfl ?_
                    by_cases h2 : kd = (2 : Int32)
                    · refine E.icmpN (q := 358) X154 hx (hb hby at_355) (XT.ii_ne_f h2) ?_
                      refine E.aload (q := 360) X154 hx (hb hby at_358) rfl rfl ?_
                      refine E.astore (q := 362) (l' := #[.val (.int vk), .val (.int vv), .val (.long s1), .second, .val (.long vd), .second, .val (.int md), .val (.int k1), .val (.int k2), .val (.int v1a), .val (.int v1b), .val (.int sv), .val (.int v2a), .val (.int v2b), .val (.int sh), .val (.long s2), .second, .val (.int kd), .val (.ref b99), .val (.ref b102), .val (.ref a105), .val (.ref a106), .val (.ref b107), .val (.ref b112), .val (.ref b140), .val (.ref a105)]) X154 hx (hb hby at_360) rfl rfl ?_
                      refine E.aload (q := 364) X154 hx (hb hby at_362) rfl rfl ?_
                      refine E.aload (q := 366) X154 hx (hb hby at_364) rfl rfl ?_
                      have f257 := f137.keep hO139.1
                      have f258 := f257.ext E140
                      have f259 := f258.keep hO154.1
                      have f260 := f125.keep hO139.1
                      have f261 := f260.ext E140
                      have f262 := f261.keep hO154.1
                      refine Ends.callV X154 hx hZ hown (hw _ (List.mem_of_getElem? (i := 66) rfl)) (hw _ (List.mem_of_getElem? (i := 67) rfl)) (hw _ (List.mem_of_getElem? (i := 69) rfl)) (hw _ (List.mem_of_getElem? (i := 68) rfl)) (hw _ (List.mem_of_getElem? (i := 46) rfl)) (hw _ (List.mem_of_getElem? (i := 70) rfl)) (by decide) (argsL := [(.ref a105)]) (rest := []) e154 f262 (rmEt l Z a0 hw b112 a105 _ f259) (W := 0) (by decide) (by decide) (by rw [hml]; rfl) (lenOf pd_9 rfl) (Nat.le_of_eq rfl) (hb hby at_366) (by decide) (by decide) rfl ?_
                      rintro T263 v263 L263 X263 ⟨rfl, e263, rfl⟩
                      rw [List.append_nil] at X263
                      show Ends true p e below s _ _ _ T263 (mkF m 369 #[.val (.int vk), .val (.int vv), .val (.long s1), .second, .val (.long vd), .second, .val (.int md), .val (.int k1), .val (.int k2), .val (.int v1a), .val (.int v1b), .val (.int sv), .val (.int v2a), .val (.int v2b), .val (.int sh), .val (.long s2), .second, .val (.int kd), .val (.ref b99), .val (.ref b102), .val (.ref a105), .val (.ref a106), .val (.ref b107), .val (.ref b112), .val (.ref b140), .val (.ref a105)] [(.int (0 : Int32))])
                      refine E.ifN (q := 372) X263 hx (hb hby at_369) (XT.i0_ne_f (by decide)) ?_
                      refine E.iconst (q := 373) (v := (1 : Int32)) X263 hx (hb hby at_372) rfl ?_
                      refine E.goto (q := 377) X263 hx (hb hby at_373) ?_
                      exact Ends.retS X263 hx hlk hret (by simp) rfl (hb hby at_377) (by decide) (by decide) ⟨⟨rfl, (O154).fr⟩, by first | exact (Nat.le_refl _) | (rw [e263]; exact (Nat.le_refl _))⟩
                    · refine E.icmpY (q := 378) X154 hx (hb hby at_355) (XT.ii_ne_t h2) ?_
                      refine E.aload (q := 380) X154 hx (hb hby at_378) rfl rfl ?_
                      refine E.aload (q := 382) X154 hx (hb hby at_380) rfl rfl ?_
                      have f264 := f125.keep hO139.1
                      have f265 := f264.ext E140
                      have f266 := f265.keep hO154.1
                      have f267 := Fk139.ext E140
                      have f268 := f267.keep hO154.1 (ninS (Nat.ne_of_lt (Nat.lt_of_lt_of_eq f264.lt g140.symm)) nin0)
                      have f269 := Fv139.ext E140
                      have f270 := f269.keep hO154.1 (ninS (Nat.ne_of_lt (Nat.lt_of_lt_of_eq f264.lt g140.symm)) nin0)
                      have f271 := Fs139.ext E140
                      have f272 := f271.keep hO154.1 (ninS (Nat.ne_of_lt (Nat.lt_of_lt_of_eq f264.lt g140.symm)) nin0)
                      have f273 := f137.keep hO139.1
                      have f274 := f273.ext E140
                      have f275 := f274.keep hO154.1
                      have f276 := f138.keep hO139.1
                      have f277 := f276.ext E140
                      have f278 := f277.keep hO154.1
                      refine Ends.callV X154 hx hZ hown (hw _ (List.mem_of_getElem? (i := 66) rfl)) (hw _ (List.mem_of_getElem? (i := 67) rfl)) (hw _ (List.mem_of_getElem? (i := 69) rfl)) (hw _ (List.mem_of_getElem? (i := 68) rfl)) (hw _ (List.mem_of_getElem? (i := 46) rfl)) (hw _ (List.mem_of_getElem? (i := 70) rfl)) (by decide) (argsL := [(.ref b112)]) (rest := []) e154 f266 (rmEs l Z a0 hw b112 a105 b113 s1 _ f266 f268 f270 f272 f275 f278) (W := 0) (by decide) (by decide) (by rw [hml]; rfl) (lenOf pd_9 rfl) (Nat.le_of_eq rfl) (hb hby at_382) (by decide) (by decide) rfl ?_
                      rintro T279 v279 L279 X279 ⟨rfl, e279, rfl⟩
                      rw [List.append_nil] at X279
                      show Ends true p e below s _ _ _ T279 (mkF m 385 #[.val (.int vk), .val (.int vv), .val (.long s1), .second, .val (.long vd), .second, .val (.int md), .val (.int k1), .val (.int k2), .val (.int v1a), .val (.int v1b), .val (.int sv), .val (.int v2a), .val (.int v2b), .val (.int sh), .val (.long s2), .second, .val (.int kd), .val (.ref b99), .val (.ref b102), .val (.ref a105), .val (.ref a106), .val (.ref b107), .val (.ref b112), .val (.ref b140), .unset] [(.int (1 : Int32))])
                      exact Ends.retS X279 hx hlk hret (by simp) rfl (hb hby at_385) (by decide) (by decide) ⟨⟨rfl, (O154).fr⟩, by first | exact (Nat.le_refl _) | (rw [e279]; exact (Nat.le_refl _))⟩
              · refine E.ifN (q := 197) X106 hx (hb hby at_194) (XT.i0_eq_f hsh) ?_
                refine E.iload (q := 199) X106 hx (hb hby at_197) rfl ?_
                refine Ends.callS X106 hx hZ hown (hw _ (List.mem_of_getElem? (i := 1) rfl)) (hw _ (List.mem_of_getElem? (i := 2) rfl)) (hw _ (List.mem_of_getElem? (i := 3) rfl)) (hw _ (List.mem_of_getElem? (i := 4) rfl)) (by decide) (argsL := [(.int v2a)]) (rest := []) e106 (rm1 l Z a0 hw v2a _ bv2a.1 cs hcs (own_sta_keep S0 O106.1 own_ns0)) (W := 0) (by decide) (by decide) (by rw [hml]; rfl) (lenOf pd_10 rfl) (Nat.le_of_eq rfl) (hb hby at_199) (by decide) (by decide) rfl ?_
                rintro T280 v280 L280 X280 ⟨a280, U280, rfl, ga280, gU280, nn280, hO280, Ea280, Fv280, Fc280, A280⟩
                have e280 : T280.heap = T280.heap := rfl
                have O280 := O106.call hO280 all0
                show Ends true p e below s _ _ _ T280 (mkF m 202 #[.val (.int vk), .val (.int vv), .val (.long s1), .second, .val (.long vd), .second, .val (.int md), .val (.int k1), .val (.int k2), .val (.int v1a), .val (.int v1b), .val (.int sv), .val (.int v2a), .val (.int v2b), .val (.int sh), .val (.long s2), .second, .val (.int kd), .val (.ref b99), .val (.ref b102), .val (.ref a105), .val (.ref a106), .unset, .unset, .unset, .unset] [(.ref a280)])
                refine E.goto (q := 214) X280 hx (hb hby at_202) ?_
                refine E.astore (q := 216) (l' := #[.val (.int vk), .val (.int vv), .val (.long s1), .second, .val (.long vd), .second, .val (.int md), .val (.int k1), .val (.int k2), .val (.int v1a), .val (.int v1b), .val (.int sv), .val (.int v2a), .val (.int v2b), .val (.int sh), .val (.long s2), .second, .val (.int kd), .val (.ref b99), .val (.ref b102), .val (.ref a105), .val (.ref a106), .val (.ref a280), .unset, .unset, .unset]) X280 hx (hb hby at_214) rfl rfl ?_
                refine Ends.newC X280 hx hZ hown (hw _ (List.mem_of_getElem? (i := 44) rfl)) (hw _ (List.mem_of_getElem? (i := 45) rfl)) (hw _ (List.mem_of_getElem? (i := 46) rfl)) e280 (hb hby at_216) (by decide) (by decide) ?_
                intro T281 h281 b281 g281 X281 e281 E281 A281 D281
                have ge_b281 : h0.size ≤ b281 := Nat.le_trans O280.le (Nat.le_of_eq g281.symm)
                have O281 := O280.ext E281
                have F281_key : Fld Z h281 b281 "com/example/people_in_groups/peopleingroups/model/ExtensionPair" "key" "Ljava/lang/String;" .null := D281 (Or.inr (hw _ (List.mem_of_getElem? (i := 60) rfl))) (ty := (.object "java/lang/String")) (by decide)
                have F281_value : Fld Z h281 b281 "com/example/people_in_groups/peopleingroups/model/ExtensionPair" "value" "Ljava/lang/String;" .null := D281 (Or.inr (hw _ (List.mem_of_getElem? (i := 63) rfl))) (ty := (.object "java/lang/String")) (by decide)
                have F281_seq : Fld Z h281 b281 "com/example/people_in_groups/peopleingroups/model/ExtensionPair" "seq" "J" (.long (0 : Int64)) := D281 (Or.inr (hw _ (List.mem_of_getElem? (i := 65) rfl))) (ty := .long) (by decide)
                refine E.dup (q := 220) X281 hx (hb hby at_219) rfl ?_
                refine E.aload (q := 222) X281 hx (hb hby at_220) rfl rfl ?_
                refine Ends.newC X281 hx hZ hown (hw _ (List.mem_of_getElem? (i := 27) rfl)) (hw _ (List.mem_of_getElem? (i := 11) rfl)) (hw _ (List.mem_of_getElem? (i := 3) rfl)) e281 (hb hby at_222) (by decide) (by decide) ?_
                intro T282 h282 b282 g282 X282 e282 E282 A282 D282
                have ge_b282 : h0.size ≤ b282 := Nat.le_trans O281.le (Nat.le_of_eq g282.symm)
                have O282 := O281.ext E282
                have F282_value : Fld Z h282 b282 "java/lang/String" "value" "[B" .null := D282 (Or.inr (hw _ (List.mem_of_getElem? (i := 24) rfl))) (ty := (.array .byte)) (by decide)
                have F282_coder : Fld Z h282 b282 "java/lang/String" "coder" "B" (.int (0 : Int32)) := D282 (Or.inr (hw _ (List.mem_of_getElem? (i := 26) rfl))) (ty := .byte) (by decide)
                refine E.dup (q := 226) X282 hx (hb hby at_225) rfl ?_
                refine E.aload (q := 228) X282 hx (hb hby at_226) rfl rfl ?_
                have f283 := V101.ext E102
                have f284 := f283.other W103 (Nat.ne_of_lt (Nat.lt_of_lt_of_eq V101.lt g102.symm))
                have f285 := f284.other W104 (Nat.ne_of_lt (Nat.lt_of_lt_of_eq V101.lt g102.symm))
                have f286 := f285.keep hO105.1 nin0
                have f287 := f286.keep hO106.1 nin0
                have f288 := f287.keep hO280.1 nin0
                have f289 := f288.ext E281
                have f290 := f289.ext E282
                refine Ends.callI X282 hx hZ hown (hw _ (List.mem_of_getElem? (i := 28) rfl)) (hw _ (List.mem_of_getElem? (i := 29) rfl)) (hw _ (List.mem_of_getElem? (i := 3) rfl)) (hw _ (List.mem_of_getElem? (i := 30) rfl)) rfl (by decide) (argsL := [(.ref b99)]) (rest := [(.ref b282), (.ref a105), (.ref b281), (.ref b281)]) e282 (rmI1_2 l Z a0 hw b282 b99 v1a v1b _ bv1a.1 bv1b.1 A282 F282_value F282_coder f290 (Nat.ne_of_lt (Nat.lt_of_lt_of_eq f289.lt g282.symm)) cs hcs (own_sta_keep S0 O282.1 own_ns0)) (W := 4) (by decide) (by decide) (by rw [hml]; rfl) (lenOf pd_11 rfl) (Nat.le_of_eq rfl) (hb hby at_228) (by decide) (by decide) rfl ?_
                rintro T291 v291 L291 X291 ⟨rfl, U291, gU291, hO291, Fv291, Fc291, A291⟩
                have e291 : T291.heap = T291.heap := rfl
                have O291 := O282.call hO291 (allS (Or.inr ge_b282) all0)
                show Ends true p e below s _ _ _ T291 (mkF m 231 #[.val (.int vk), .val (.int vv), .val (.long s1), .second, .val (.long vd), .second, .val (.int md), .val (.int k1), .val (.int k2), .val (.int v1a), .val (.int v1b), .val (.int sv), .val (.int v2a), .val (.int v2b), .val (.int sh), .val (.long s2), .second, .val (.int kd), .val (.ref b99), .val (.ref b102), .val (.ref a105), .val (.ref a106), .val (.ref a280), .unset, .unset, .unset] [(.ref b282), (.ref a105), (.ref b281), (.ref b281)])
                refine E.lloadN (q := 232) X291 hx (hb hby at_231) rfl ?_
                have f292 := A281.ext E282
                have f293 := f292.keep hO291.1
                have f294 := F281_key.ext E282
                have f295 := f294.keep hO291.1 (ninS (Nat.ne_of_lt (Nat.lt_of_lt_of_eq A281.lt g282.symm)) nin0)
                have f296 := F281_value.ext E282
                have f297 := f296.keep hO291.1 (ninS (Nat.ne_of_lt (Nat.lt_of_lt_of_eq A281.lt g282.symm)) nin0)
                have f298 := F281_seq.ext E282
                have f299 := f298.keep hO291.1 (ninS (Nat.ne_of_lt (Nat.lt_of_lt_of_eq A281.lt g282.symm)) nin0)
                have f300 := Ea105.keep hO106.1
                have f301 := f300.keep hO280.1
                have f302 := f301.ext E281
                have f303 := f302.ext E282
                have f304 := f303.keep hO291.1
                have f305 := A282.keep hO291.1
                refine Ends.callIW X291 hx hZ hown (hw _ (List.mem_of_getElem? (i := 47) rfl)) (hw _ (List.mem_of_getElem? (i := 48) rfl)) (hw _ (List.mem_of_getElem? (i := 46) rfl)) (hw _ (List.mem_of_getElem? (i := 49) rfl)) rfl (by decide) (argsL := [(.ref a105), (.ref b282), (.long s1)]) (rest := [(.ref b281)]) e291 (Nat.zero_le _) (rm11 l Z a0 hw b281 a105 b282 s1 _ f293 f295 f297 f299 f304 f305) (W := 1) (by decide) (by decide) (by rw [hml]; rfl) (lenOf pd_12 rfl) (Nat.le_of_eq rfl) (hb hby at_232) (by decide) (by decide) rfl ?_
                rintro s T306 v306 L306 X306 hZ hown ⟨rfl, hO306, Fk306, Fv306, Fs306⟩
                have e306 : T306.heap = T306.heap := rfl
                have O306 := O291.call hO306 (allS (Or.inr ge_b281) all0)
                show Ends true p e below s _ _ _ T306 (mkF m 235 #[.val (.int vk), .val (.int vv), .val (.long s1), .second, .val (.long vd), .second, .val (.int md), .val (.int k1), .val (.int k2), .val (.int v1a), .val (.int v1b), .val (.int sv), .val (.int v2a), .val (.int v2b), .val (.int sh), .val (.long s2), .second, .val (.int kd), .val (.ref b99), .val (.ref b102), .val (.ref a105), .val (.ref a106), .val (.ref a280), .unset, .unset, .unset] [(.ref b281)])
                refine E.astore (q := 237) (l' := #[.val (.int vk), .val (.int vv), .val (.long s1), .second, .val (.long vd), .second, .val (.int md), .val (.int k1), .val (.int k2), .val (.int v1a), .val (.int v1b), .val (.int sv), .val (.int v2a), .val (.int v2b), .val (.int sh), .val (.long s2), .second, .val (.int kd), .val (.ref b99), .val (.ref b102), .val (.ref a105), .val (.ref a106), .val (.ref a280), .val (.ref b281), .unset, .unset]) X306 hx (hb hby at_235) rfl rfl ?_
                refine Ends.newC X306 hx hZ hown (hw _ (List.mem_of_getElem? (i := 44) rfl)) (hw _ (List.mem_of_getElem? (i := 45) rfl)) (hw _ (List.mem_of_getElem? (i := 46) rfl)) e306 (hb hby at_237) (by decide) (by decide) ?_
                intro T307 h307 b307 g307 X307 e307 E307 A307 D307
                have ge_b307 : h0.size ≤ b307 := Nat.le_trans O306.le (Nat.le_of_eq g307.symm)
                have O307 := O306.ext E307
                have F307_key : Fld Z h307 b307 "com/example/people_in_groups/peopleingroups/model/ExtensionPair" "key" "Ljava/lang/String;" .null := D307 (Or.inr (hw _ (List.mem_of_getElem? (i := 60) rfl))) (ty := (.object "java/lang/String")) (by decide)
                have F307_value : Fld Z h307 b307 "com/example/people_in_groups/peopleingroups/model/ExtensionPair" "value" "Ljava/lang/String;" .null := D307 (Or.inr (hw _ (List.mem_of_getElem? (i := 63) rfl))) (ty := (.object "java/lang/String")) (by decide)
                have F307_seq : Fld Z h307 b307 "com/example/people_in_groups/peopleingroups/model/ExtensionPair" "seq" "J" (.long (0 : Int64)) := D307 (Or.inr (hw _ (List.mem_of_getElem? (i := 65) rfl))) (ty := .long) (by decide)
                refine E.dup (q := 241) X307 hx (hb hby at_240) rfl ?_
                refine E.aload (q := 243) X307 hx (hb hby at_241) rfl rfl ?_
                refine E.aload (q := 245) X307 hx (hb hby at_243) rfl rfl ?_
                refine E.lload (q := 247) X307 hx (hb hby at_245) rfl ?_
                have f308 := Ea106.keep hO280.1
                have f309 := f308.ext E281
                have f310 := f309.ext E282
                have f311 := f310.keep hO291.1
                have f312 := f311.keep hO306.1
                have f313 := f312.ext E307
                have f314 := Ea280.ext E281
                have f315 := f314.ext E282
                have f316 := f315.keep hO291.1
                have f317 := f316.keep hO306.1
                have f318 := f317.ext E307
                refine Ends.callIW X307 hx hZ hown (hw _ (List.mem_of_getElem? (i := 47) rfl)) (hw _ (List.mem_of_getElem? (i := 48) rfl)) (hw _ (List.mem_of_getElem? (i := 46) rfl)) (hw _ (List.mem_of_getElem? (i := 49) rfl)) rfl (by decide) (argsL := [(.ref a106), (.ref a280), (.long s2)]) (rest := [(.ref b307)]) e307 (Nat.le_trans (Nat.le_refl _) E307.1) (rm11 l Z a0 hw b307 a106 a280 s2 _ A307 F307_key F307_value F307_seq f313 f318) (W := 1) (by decide) (by decide) (by rw [hml]; rfl) (lenOf pd_12 rfl) (Nat.le_of_eq rfl) (hb hby at_247) (by decide) (by decide) rfl ?_
                rintro s T319 v319 L319 X319 hZ hown ⟨rfl, hO319, Fk319, Fv319, Fs319⟩
                have e319 : T319.heap = T319.heap := rfl
                have O319 := O307.call hO319 (allS (Or.inr ge_b307) all0)
                show Ends true p e below s _ _ _ T319 (mkF m 250 #[.val (.int vk), .val (.int vv), .val (.long s1), .second, .val (.long vd), .second, .val (.int md), .val (.int k1), .val (.int k2), .val (.int v1a), .val (.int v1b), .val (.int sv), .val (.int v2a), .val (.int v2b), .val (.int sh), .val (.long s2), .second, .val (.int kd), .val (.ref b99), .val (.ref b102), .val (.ref a105), .val (.ref a106), .val (.ref a280), .val (.ref b281), .unset, .unset] [(.ref b307)])
                refine E.astore (q := 252) (l' := #[.val (.int vk), .val (.int vv), .val (.long s1), .second, .val (.long vd), .second, .val (.int md), .val (.int k1), .val (.int k2), .val (.int v1a), .val (.int v1b), .val (.int sv), .val (.int v2a), .val (.int v2b), .val (.int sh), .val (.long s2), .second, .val (.int kd), .val (.ref b99), .val (.ref b102), .val (.ref a105), .val (.ref a106), .val (.ref a280), .val (.ref b281), .val (.ref b307), .unset]) X319 hx (hb hby at_250) rfl rfl ?_
                refine E.iload (q := 254) X319 hx (hb hby at_252) rfl ?_
                by_cases hz : kd = (0 : Int32)
                · refine E.ifN (q := 257) X319 hx (hb hby at_254) (XT.i0_ne_f hz) ?_
                  have Jx : ∀ xv : Int32, xv = (if [k1.toInt8.toInt32] = [k2.toInt8.toInt32] ∧ [v1a.toInt8.toInt32, v1b.toInt8.toInt32] = [v2a.toInt8.toInt32] ∧ s1 = s2 then (1 : Int32) else 0) → Ends true p e below s (Fl (fun v h L => v = some (.int 1) ∧ Fr h0.size L) T319.heap.size) room_1.cells room_1.slots T319 (mkF m 295 #[.val (.int vk), .val (.int vv), .val (.long s1), .second, .val (.long vd), .second, .val (.int md), .val (.int k1), .val (.int k2), .val (.int v1a), .val (.int v1b), .val (.int sv), .val (.int v2a), .val (.int v2b), .val (.int sh), .val (.long s2), .second, .val (.int kd), .val (.ref b99), .val (.ref b102), .val (.ref a105), .val (.ref a106), .val (.ref a280), .val (.ref b281), .val (.ref b307), .unset] [(.int xv)]) := by
                    intro xv hxv
                    show Ends true p e below s _ _ _ T319 (mkF m 295 #[.val (.int vk), .val (.int vv), .val (.long s1), .second, .val (.long vd), .second, .val (.int md), .val (.int k1), .val (.int k2), .val (.int v1a), .val (.int v1b), .val (.int sv), .val (.int v2a), .val (.int v2b), .val (.int sh), .val (.long s2), .second, .val (.int kd), .val (.ref b99), .val (.ref b102), .val (.ref a105), .val (.ref a106), .val (.ref a280), .val (.ref b281), .val (.ref b307), .unset] [(.int xv)])
                    refine E.istore (q := 297) (l' := #[.val (.int vk), .val (.int vv), .val (.long s1), .second, .val (.long vd), .second, .val (.int md), .val (.int k1), .val (.int k2), .val (.int v1a), .val (.int v1b), .val (.int sv), .val (.int v2a), .val (.int v2b), .val (.int sh), .val (.long s2), .second, .val (.int kd), .val (.ref b99), .val (.ref b102), .val (.ref a105), .val (.ref a106), .val (.ref a280), .val (.ref b281), .val (.ref b307), .val (.int xv)]) X319 hx (hb hby at_295) rfl ?_
                    refine E.aload (q := 299) X319 hx (hb hby at_297) rfl rfl ?_
                    refine E.aload (q := 301) X319 hx (hb hby at_299) rfl rfl ?_
                    have f320 := A307.keep hO319.1
                    have f321 := Fk306.ext E307
                    have f322 := f293.keep hO306.1
                    have f323 := f321.keep hO319.1 (ninS (Nat.ne_of_lt (Nat.lt_of_lt_of_eq f322.lt g307.symm)) nin0)
                    have f324 := Fv306.ext E307
                    have f325 := f324.keep hO319.1 (ninS (Nat.ne_of_lt (Nat.lt_of_lt_of_eq f322.lt g307.symm)) nin0)
                    have f326 := Fs306.ext E307
                    have f327 := f326.keep hO319.1 (ninS (Nat.ne_of_lt (Nat.lt_of_lt_of_eq f322.lt g307.symm)) nin0)
                    have f328 := f304.keep hO306.1
                    have f329 := f328.ext E307
                    have f330 := f329.keep hO319.1
                    have f331 := Fv105.keep hO106.1 nin0
                    have f332 := f331.keep hO280.1 nin0
                    have f333 := f332.ext E281
                    have f334 := f333.ext E282
                    have f335 := f334.keep hO291.1 (ninS (Nat.ne_of_lt (Nat.lt_of_lt_of_eq f302.lt g282.symm)) nin0)
                    have f336 := f335.keep hO306.1 (ninS (Nat.ne_of_lt (Nat.lt_of_lt_of_eq f301.lt g281.symm)) nin0)
                    have f337 := f336.ext E307
                    have f338 := f337.keep hO319.1 (ninS (Nat.ne_of_lt (Nat.lt_of_lt_of_eq f328.lt g307.symm)) nin0)
                    have f339 := Fc105.keep hO106.1 nin0
                    have f340 := f339.keep hO280.1 nin0
                    have f341 := f340.ext E281
                    have f342 := f341.ext E282
                    have f343 := f342.keep hO291.1 (ninS (Nat.ne_of_lt (Nat.lt_of_lt_of_eq f302.lt g282.symm)) nin0)
                    have f344 := f343.keep hO306.1 (ninS (Nat.ne_of_lt (Nat.lt_of_lt_of_eq f301.lt g281.symm)) nin0)
                    have f345 := f344.ext E307
                    have f346 := f345.keep hO319.1 (ninS (Nat.ne_of_lt (Nat.lt_of_lt_of_eq f328.lt g307.symm)) nin0)
                    have f347 := A105.keep hO106.1 nin0
                    have f348 := f347.keep hO280.1 nin0
                    have f349 := f348.ext E281
                    have f350 := f349.ext E282
                    have f351 := f350.keep hO291.1 (ninS (Nat.ne_of_lt (Nat.lt_of_lt_of_eq f349.lt g282.symm)) nin0)
                    have f352 := f351.keep hO306.1 (ninS (Nat.ne_of_lt (Nat.lt_of_lt_of_eq f348.lt g281.symm)) nin0)
                    have f353 := f352.ext E307
                    have f354 := f353.keep hO319.1 (ninS (Nat.ne_of_lt (Nat.lt_of_lt_of_eq f352.lt g307.symm)) nin0)
                    have f355 := f305.keep hO306.1
                    have f356 := f355.ext E307
                    have f357 := f356.keep hO319.1
                    have f358 := Fv291.keep hO306.1 (ninS (Ne.symm (Nat.ne_of_lt (Nat.lt_of_lt_of_eq A281.lt g282.symm))) nin0)
                    have f359 := f358.ext E307
                    have f360 := f359.keep hO319.1 (ninS (Nat.ne_of_lt (Nat.lt_of_lt_of_eq f355.lt g307.symm)) nin0)
                    have f361 := Fc291.keep hO306.1 (ninS (Ne.symm (Nat.ne_of_lt (Nat.lt_of_lt_of_eq A281.lt g282.symm))) nin0)
                    have f362 := f361.ext E307
                    have f363 := f362.keep hO319.1 (ninS (Nat.ne_of_lt (Nat.lt_of_lt_of_eq f355.lt g307.symm)) nin0)
                    have f364 := A291.keep hO306.1 (ninS (Ne.symm (Nat.ne_of_lt (Nat.lt_of_lt_of_le f292.lt gU291))) nin0)
                    have f365 := f364.ext E307
                    have f366 := f365.keep hO319.1 (ninS (Nat.ne_of_lt (Nat.lt_of_lt_of_eq f364.lt g307.symm)) nin0)
                    have f367 := f313.keep hO319.1
                    have f368 := Fv106.keep hO280.1 nin0
                    have f369 := f368.ext E281
                    have f370 := f369.ext E282
                    have f371 := f370.keep hO291.1 (ninS (Nat.ne_of_lt (Nat.lt_of_lt_of_eq f309.lt g282.symm)) nin0)
                    have f372 := f371.keep hO306.1 (ninS (Nat.ne_of_lt (Nat.lt_of_lt_of_eq f308.lt g281.symm)) nin0)
                    have f373 := f372.ext E307
                    have f374 := f373.keep hO319.1 (ninS (Nat.ne_of_lt (Nat.lt_of_lt_of_eq f312.lt g307.symm)) nin0)
                    have f375 := Fc106.keep hO280.1 nin0
                    have f376 := f375.ext E281
                    have f377 := f376.ext E282
                    have f378 := f377.keep hO291.1 (ninS (Nat.ne_of_lt (Nat.lt_of_lt_of_eq f309.lt g282.symm)) nin0)
                    have f379 := f378.keep hO306.1 (ninS (Nat.ne_of_lt (Nat.lt_of_lt_of_eq f308.lt g281.symm)) nin0)
                    have f380 := f379.ext E307
                    have f381 := f380.keep hO319.1 (ninS (Nat.ne_of_lt (Nat.lt_of_lt_of_eq f312.lt g307.symm)) nin0)
                    have f382 := A106.keep hO280.1 nin0
                    have f383 := f382.ext E281
                    have f384 := f383.ext E282
                    have f385 := f384.keep hO291.1 (ninS (Nat.ne_of_lt (Nat.lt_of_lt_of_eq f383.lt g282.symm)) nin0)
                    have f386 := f385.keep hO306.1 (ninS (Nat.ne_of_lt (Nat.lt_of_lt_of_eq f382.lt g281.symm)) nin0)
                    have f387 := f386.ext E307
                    have f388 := f387.keep hO319.1 (ninS (Nat.ne_of_lt (Nat.lt_of_lt_of_eq f386.lt g307.symm)) nin0)
                    have f389 := f318.keep hO319.1
                    have f390 := Fv280.ext E281
                    have f391 := f390.ext E282
                    have f392 := f391.keep hO291.1 (ninS (Nat.ne_of_lt (Nat.lt_of_lt_of_eq f314.lt g282.symm)) nin0)
                    have f393 := f392.keep hO306.1 (ninS (Nat.ne_of_lt (Nat.lt_of_lt_of_eq Ea280.lt g281.symm)) nin0)
                    have f394 := f393.ext E307
                    have f395 := f394.keep hO319.1 (ninS (Nat.ne_of_lt (Nat.lt_of_lt_of_eq f317.lt g307.symm)) nin0)
                    have f396 := Fc280.ext E281
                    have f397 := f396.ext E282
                    have f398 := f397.keep hO291.1 (ninS (Nat.ne_of_lt (Nat.lt_of_lt_of_eq f314.lt g282.symm)) nin0)
                    have f399 := f398.keep hO306.1 (ninS (Nat.ne_of_lt (Nat.lt_of_lt_of_eq Ea280.lt g281.symm)) nin0)
                    have f400 := f399.ext E307
                    have f401 := f400.keep hO319.1 (ninS (Nat.ne_of_lt (Nat.lt_of_lt_of_eq f317.lt g307.symm)) nin0)
                    have f402 := A280.ext E281
                    have f403 := f402.ext E282
                    have f404 := f403.keep hO291.1 (ninS (Nat.ne_of_lt (Nat.lt_of_lt_of_eq f402.lt g282.symm)) nin0)
                    have f405 := f404.keep hO306.1 (ninS (Nat.ne_of_lt (Nat.lt_of_lt_of_eq A280.lt g281.symm)) nin0)
                    have f406 := f405.ext E307
                    have f407 := f406.keep hO319.1 (ninS (Nat.ne_of_lt (Nat.lt_of_lt_of_eq f405.lt g307.symm)) nin0)
                    have f408 := f322.ext E307
                    have f409 := f408.keep hO319.1
                    refine Ends.callV X319 hx hZ hown (hw _ (List.mem_of_getElem? (i := 66) rfl)) (hw _ (List.mem_of_getElem? (i := 67) rfl)) (hw _ (List.mem_of_getElem? (i := 69) rfl)) (hw _ (List.mem_of_getElem? (i := 68) rfl)) (hw _ (List.mem_of_getElem? (i := 46) rfl)) (hw _ (List.mem_of_getElem? (i := 70) rfl)) (by decide) (argsL := [(.ref b307)]) (rest := []) e319 f409 (rm13 l Z a0 hw b281 b307 a105 b282 a106 a280 U105 U291 U106 U280 s1 s2 [k1.toInt8.toInt32] [v1a.toInt8.toInt32, v1b.toInt8.toInt32] [k2.toInt8.toInt32] [v2a.toInt8.toInt32] _ f320 f323 f325 f327 Fk319 Fv319 Fs319 f330 f338 f346 f354 f357 f360 f363 f366 f367 f374 f381 f388 f389 f395 f401 f407 (Nat.ne_of_lt (Nat.lt_of_lt_of_le Ea105.lt ga106)) (Ne.symm (Nat.ne_of_lt (Nat.lt_of_lt_of_eq f314.lt g282.symm))) cs hcs (own_sta_keep S0 O319.1 own_ns0)) (W := 0) (by decide) (by decide) (by rw [hml]; rfl) (lenOf pd_9 rfl) (Nat.le_of_eq rfl) (hb hby at_301) (by decide) (by decide) rfl ?_
                    rintro T410 v410 L410 X410 ⟨rfl, e410, rfl⟩
                    rw [List.append_nil] at X410
                    show Ends true p e below s _ _ _ T410 (mkF m 304 #[.val (.int vk), .val (.int vv), .val (.long s1), .second, .val (.long vd), .second, .val (.int md), .val (.int k1), .val (.int k2), .val (.int v1a), .val (.int v1b), .val (.int sv), .val (.int v2a), .val (.int v2b), .val (.int sh), .val (.long s2), .second, .val (.int kd), .val (.ref b99), .val (.ref b102), .val (.ref a105), .val (.ref a106), .val (.ref a280), .val (.ref b281), .val (.ref b307), .val (.int xv)] [(.int (if [k1.toInt8.toInt32] = [k2.toInt8.toInt32] ∧ [v1a.toInt8.toInt32, v1b.toInt8.toInt32] = [v2a.toInt8.toInt32] ∧ s1 = s2 then (1 : Int32) else 0))])
                    refine E.iload (q := 306) X410 hx (hb hby at_304) rfl ?_
                    refine E.icmpN (q := 309) X410 hx (hb hby at_306) (XT.ii_ne_f hxv.symm) ?_
                    refine E.aload (q := 311) X410 hx (hb hby at_309) rfl rfl ?_
                    refine E.aload (q := 313) X410 hx (hb hby at_311) rfl rfl ?_
                    refine Ends.callV X410 hx hZ hown (hw _ (List.mem_of_getElem? (i := 66) rfl)) (hw _ (List.mem_of_getElem? (i := 67) rfl)) (hw _ (List.mem_of_getElem? (i := 69) rfl)) (hw _ (List.mem_of_getElem? (i := 68) rfl)) (hw _ (List.mem_of_getElem? (i := 46) rfl)) (hw _ (List.mem_of_getElem? (i := 70) rfl)) (by decide) (argsL := [(.ref b281)]) (rest := []) e410 f320 (rm13 l Z a0 hw b307 b281 a106 a280 a105 b282 U106 U280 U105 U291 s2 s1 [k2.toInt8.toInt32] [v2a.toInt8.toInt32] [k1.toInt8.toInt32] [v1a.toInt8.toInt32, v1b.toInt8.toInt32] _ f409 Fk319 Fv319 Fs319 f323 f325 f327 f367 f374 f381 f388 f389 f395 f401 f407 f330 f338 f346 f354 f357 f360 f363 f366 (Ne.symm (Nat.ne_of_lt (Nat.lt_of_lt_of_le Ea105.lt ga106))) (Nat.ne_of_lt (Nat.lt_of_lt_of_eq f314.lt g282.symm)) cs hcs (own_sta_keep S0 O319.1 own_ns0)) (W := 0) (by decide) (by decide) (by rw [hml]; rfl) (lenOf pd_9 rfl) (Nat.le_of_eq rfl) (hb hby at_313) (by decide) (by decide) rfl ?_
                    rintro T411 v411 L411 X411 ⟨rfl, e411, rfl⟩
                    rw [List.append_nil] at X411
                    show Ends true p e below s _ _ _ T411 (mkF m 316 #[.val (.int vk), .val (.int vv), .val (.long s1), .second, .val (.long vd), .second, .val (.int md), .val (.int k1), .val (.int k2), .val (.int v1a), .val (.int v1b), .val (.int sv), .val (.int v2a), .val (.int v2b), .val (.int sh), .val (.long s2), .second, .val (.int kd), .val (.ref b99), .val (.ref b102), .val (.ref a105), .val (.ref a106), .val (.ref a280), .val (.ref b281), .val (.ref b307), .val (.int xv)] [(.int (if [k2.toInt8.toInt32] = [k1.toInt8.toInt32] ∧ [v2a.toInt8.toInt32] = [v1a.toInt8.toInt32, v1b.toInt8.toInt32] ∧ s2 = s1 then (1 : Int32) else 0))])
                    refine E.iload (q := 318) X411 hx (hb hby at_316) rfl ?_
                    refine E.icmpN (q := 321) X411 hx (hb hby at_318) (XT.ii_ne_f (by rw [hxv]; exact own_sw)) ?_
                    refine E.iconst (q := 322) (v := (1 : Int32)) X411 hx (hb hby at_321) rfl ?_
                    refine E.goto (q := 326) X411 hx (hb hby at_322) ?_
                    exact Ends.retS X411 hx hlk hret (by simp) rfl (hb hby at_326) (by decide) (by decide) ⟨⟨rfl, (O319).fr⟩, by first | exact (Nat.le_refl _) | (rw [e411]; exact (Nat.le_refl _))⟩
                  refine E.iload (q := 259) X319 hx (hb hby at_257) rfl ?_
                  refine E.iload (q := 261) X319 hx (hb hby at_259) rfl ?_
                  by_cases hk : k1 = k2
                  · refine E.icmpN (q := 264) X319 hx (hb hby at_261) (XT.ii_ne_f hk) ?_
                    refine E.iload (q := 266) X319 hx (hb hby at_264) rfl ?_
                    refine E.ifY (q := 294) X319 hx (hb hby at_266) (XT.i0_ne_t hsh) ?_
                    refine E.iconst (q := 295) (v := (0 : Int32)) X319 hx (hb hby at_294) rfl ?_
                    exact Jx _ (by rw [if_neg own_R1])
                  · refine E.icmpY (q := 294) X319 hx (hb hby at_261) (XT.ii_ne_t hk) ?_
                    refine E.iconst (q := 295) (v := (0 : Int32)) X319 hx (hb hby at_294) rfl ?_
                    exact Jx _ (by rw [if_neg own_R1])
                · refine E.ifY (q := 327) X319 hx (hb hby at_254) (XT.i0_ne_t hz) ?_
                  refine E.iload (q := 329) X319 hx (hb hby at_327) rfl ?_
                  refine E.iconst (q := 330) (v := (1 : Int32)) X319 hx (hb hby at_329) rfl ?_
                  by_cases h1 : kd = (1 : Int32)
                  · refine E.icmpN (q := 333) X319 hx (hb hby at_330) (XT.ii_ne_f h1) ?_
                    refine E.aconstNull (q := 334) X319 hx (hb hby at_333) ?_
                    refine E.astore (q := 336) (l' := #[.val (.int vk), .val (.int vv), .val (.long s1), .second, .val (.long vd), .second, .val (.int md), .val (.int k1), .val (.int k2), .val (.int v1a), .val (.int v1b), .val (.int sv), .val (.int v2a), .val (.int v2b), .val (.int sh), .val (.long s2), .second, .val (.int kd), .val (.ref b99), .val (.ref b102), .val (.ref a105), .val (.ref a106), .val (.ref a280), .val (.ref b281), .val (.ref b307), .val .null]) X319 hx (hb hby at_334) rfl rfl ?_
                    refine E.aload (q := 338) X319 hx (hb hby at_336) rfl rfl ?_
                    refine E.aload (q := 340) X319 hx (hb hby at_338) rfl rfl ?_
                    have f412 := f293.keep hO306.1
                    have f413 := f412.ext E307
                    have f414 := f413.keep hO319.1
                    refine Ends.callV X319 hx hZ hown (hw _ (List.mem_of_getElem? (i := 66) rfl)) (hw _ (List.mem_of_getElem? (i := 67) rfl)) (hw _ (List.mem_of_getElem? (i := 69) rfl)) (hw _ (List.mem_of_getElem? (i := 68) rfl)) (hw _ (List.mem_of_getElem? (i := 46) rfl)) (hw _ (List.mem_of_getElem? (i := 70) rfl)) (by decide) (argsL := [.null]) (rest := []) e319 f414 (rmEn l Z a0 hw b281 _) (W := 0) (by decide) (by decide) (by rw [hml]; rfl) (lenOf pd_9 rfl) (Nat.le_of_eq rfl) (hb hby at_340) (by decide) (by decide) rfl ?_
                    rintro T415 v415 L415 X415 ⟨rfl, e415, rfl⟩
                    rw [List.append_nil] at X415
                    show Ends true p e below s _ _ _ T415 (mkF m 343 #[.val (.int vk), .val (.int vv), .val (.long s1), .second, .val (.long vd), .second, .val (.int md), .val (.int k1), .val (.int k2), .val (.int v1a), .val (.int v1b), .val (.int sv), .val (.int v2a), .val (.int v2b), .val (.int sh), .val (.long s2), .second, .val (.int kd), .val (.ref b99), .val (.ref b102), .val (.ref a105), .val (.ref a106), .val (.ref a280), .val (.ref b281), .val (.ref b307), .val .null] [(.int (0 : Int32))])
                    refine E.ifN (q := 346) X415 hx (hb hby at_343) (XT.i0_ne_f (by decide)) ?_
                    refine E.iconst (q := 347) (v := (1 : Int32)) X415 hx (hb hby at_346) rfl ?_
                    refine E.goto (q := 351) X415 hx (hb hby at_347) ?_
                    exact Ends.retS X415 hx hlk hret (by simp) rfl (hb hby at_351) (by decide) (by decide) ⟨⟨rfl, (O319).fr⟩, by first | exact (Nat.le_refl _) | (rw [e415]; exact (Nat.le_refl _))⟩
                  · refine E.icmpY (q := 352) X319 hx (hb hby at_330) (XT.ii_ne_t h1) ?_
                    refine E.iload (q := 354) X319 hx (hb hby at_352) rfl ?_
                    refine E.iconst (q := 355) (v := (2 : Int32)) X319 hx (hb hby at_354) rfl ?_
                    by_cases h2 : kd = (2 : Int32)
                    · refine E.icmpN (q := 358) X319 hx (hb hby at_355) (XT.ii_ne_f h2) ?_
                      refine E.aload (q := 360) X319 hx (hb hby at_358) rfl rfl ?_
                      refine E.astore (q := 362) (l' := #[.val (.int vk), .val (.int vv), .val (.long s1), .second, .val (.long vd), .second, .val (.int md), .val (.int k1), .val (.int k2), .val (.int v1a), .val (.int v1b), .val (.int sv), .val (.int v2a), .val (.int v2b), .val (.int sh), .val (.long s2), .second, .val (.int kd), .val (.ref b99), .val (.ref b102), .val (.ref a105), .val (.ref a106), .val (.ref a280), .val (.ref b281), .val (.ref b307), .val (.ref a105)]) X319 hx (hb hby at_360) rfl rfl ?_
                      refine E.aload (q := 364) X319 hx (hb hby at_362) rfl rfl ?_
                      refine E.aload (q := 366) X319 hx (hb hby at_364) rfl rfl ?_
                      have f416 := f304.keep hO306.1
                      have f417 := f416.ext E307
                      have f418 := f417.keep hO319.1
                      have f419 := f293.keep hO306.1
                      have f420 := f419.ext E307
                      have f421 := f420.keep hO319.1
                      refine Ends.callV X319 hx hZ hown (hw _ (List.mem_of_getElem? (i := 66) rfl)) (hw _ (List.mem_of_getElem? (i := 67) rfl)) (hw _ (List.mem_of_getElem? (i := 69) rfl)) (hw _ (List.mem_of_getElem? (i := 68) rfl)) (hw _ (List.mem_of_getElem? (i := 46) rfl)) (hw _ (List.mem_of_getElem? (i := 70) rfl)) (by decide) (argsL := [(.ref a105)]) (rest := []) e319 f421 (rmEt l Z a0 hw b281 a105 _ f418) (W := 0) (by decide) (by decide) (by rw [hml]; rfl) (lenOf pd_9 rfl) (Nat.le_of_eq rfl) (hb hby at_366) (by decide) (by decide) rfl ?_
                      rintro T422 v422 L422 X422 ⟨rfl, e422, rfl⟩
                      rw [List.append_nil] at X422
                      show Ends true p e below s _ _ _ T422 (mkF m 369 #[.val (.int vk), .val (.int vv), .val (.long s1), .second, .val (.long vd), .second, .val (.int md), .val (.int k1), .val (.int k2), .val (.int v1a), .val (.int v1b), .val (.int sv), .val (.int v2a), .val (.int v2b), .val (.int sh), .val (.long s2), .second, .val (.int kd), .val (.ref b99), .val (.ref b102), .val (.ref a105), .val (.ref a106), .val (.ref a280), .val (.ref b281), .val (.ref b307), .val (.ref a105)] [(.int (0 : Int32))])
                      refine E.ifN (q := 372) X422 hx (hb hby at_369) (XT.i0_ne_f (by decide)) ?_
                      refine E.iconst (q := 373) (v := (1 : Int32)) X422 hx (hb hby at_372) rfl ?_
                      refine E.goto (q := 377) X422 hx (hb hby at_373) ?_
                      exact Ends.retS X422 hx hlk hret (by simp) rfl (hb hby at_377) (by decide) (by decide) ⟨⟨rfl, (O319).fr⟩, by first | exact (Nat.le_refl _) | (rw [e422]; exact (Nat.le_refl _))⟩
                    · refine E.icmpY (q := 378) X319 hx (hb hby at_355) (XT.ii_ne_t h2) ?_
                      refine E.aload (q := 380) X319 hx (hb hby at_378) rfl rfl ?_
                      refine E.aload (q := 382) X319 hx (hb hby at_380) rfl rfl ?_
                      have f423 := f293.keep hO306.1
                      have f424 := f423.ext E307
                      have f425 := f424.keep hO319.1
                      have f426 := Fk306.ext E307
                      have f427 := f426.keep hO319.1 (ninS (Nat.ne_of_lt (Nat.lt_of_lt_of_eq f423.lt g307.symm)) nin0)
                      have f428 := Fv306.ext E307
                      have f429 := f428.keep hO319.1 (ninS (Nat.ne_of_lt (Nat.lt_of_lt_of_eq f423.lt g307.symm)) nin0)
                      have f430 := Fs306.ext E307
                      have f431 := f430.keep hO319.1 (ninS (Nat.ne_of_lt (Nat.lt_of_lt_of_eq f423.lt g307.symm)) nin0)
                      have f432 := f304.keep hO306.1
                      have f433 := f432.ext E307
                      have f434 := f433.keep hO319.1
                      have f435 := f305.keep hO306.1
                      have f436 := f435.ext E307
                      have f437 := f436.keep hO319.1
                      refine Ends.callV X319 hx hZ hown (hw _ (List.mem_of_getElem? (i := 66) rfl)) (hw _ (List.mem_of_getElem? (i := 67) rfl)) (hw _ (List.mem_of_getElem? (i := 69) rfl)) (hw _ (List.mem_of_getElem? (i := 68) rfl)) (hw _ (List.mem_of_getElem? (i := 46) rfl)) (hw _ (List.mem_of_getElem? (i := 70) rfl)) (by decide) (argsL := [(.ref b281)]) (rest := []) e319 f425 (rmEs l Z a0 hw b281 a105 b282 s1 _ f425 f427 f429 f431 f434 f437) (W := 0) (by decide) (by decide) (by rw [hml]; rfl) (lenOf pd_9 rfl) (Nat.le_of_eq rfl) (hb hby at_382) (by decide) (by decide) rfl ?_
                      rintro T438 v438 L438 X438 ⟨rfl, e438, rfl⟩
                      rw [List.append_nil] at X438
                      show Ends true p e below s _ _ _ T438 (mkF m 385 #[.val (.int vk), .val (.int vv), .val (.long s1), .second, .val (.long vd), .second, .val (.int md), .val (.int k1), .val (.int k2), .val (.int v1a), .val (.int v1b), .val (.int sv), .val (.int v2a), .val (.int v2b), .val (.int sh), .val (.long s2), .second, .val (.int kd), .val (.ref b99), .val (.ref b102), .val (.ref a105), .val (.ref a106), .val (.ref a280), .val (.ref b281), .val (.ref b307), .unset] [(.int (1 : Int32))])
                      exact Ends.retS X438 hx hlk hret (by simp) rfl (hb hby at_385) (by decide) (by decide) ⟨⟨rfl, (O319).fr⟩, by first | exact (Nat.le_refl _) | (rw [e438]; exact (Nat.le_refl _))⟩
            by_cases hqs2 : (md &&& (4 : Int32)) = (0 : Int32)
            · refine E.ifY (q := 132) X0 hx (hb hby at_125) (XT.i0_eq_t hqs2) ?_
              refine E.lload (q := 134) X0 hx (hb hby at_132) rfl ?_
              exact Js2 _
            · refine E.ifN (q := 128) X0 hx (hb hby at_125) (XT.i0_eq_f hqs2) ?_
              refine E.lloadN (q := 129) X0 hx (hb hby at_128) rfl ?_
              refine E.goto (q := 134) X0 hx (hb hby at_129) ?_
              exact Js2 _
          by_cases hqsh : (md &&& (8 : Int32)) = (0 : Int32)
          · refine E.ifY (q := 118) X0 hx (hb hby at_111) (XT.i0_eq_t hqsh) ?_
            refine E.iconst (q := 119) (v := (0 : Int32)) X0 hx (hb hby at_118) rfl ?_
            exact Jsh _
          · refine E.ifN (q := 114) X0 hx (hb hby at_111) (XT.i0_eq_f hqsh) ?_
            refine E.iconst (q := 115) (v := (1 : Int32)) X0 hx (hb hby at_114) rfl ?_
            refine E.goto (q := 119) X0 hx (hb hby at_115) ?_
            exact Jsh _
        by_cases hqv2b : sv = (0 : Int32)
        · refine E.ifY (q := 95) X0 hx (hb hby at_87) (XT.i0_eq_t hqv2b) ?_
          refine E.iloadN (q := 96) X0 hx (hb hby at_95) rfl ?_
          refine E.bipush (q := 98) (v := (24 : Int32)) X0 hx (hb hby at_96) rfl ?_
          refine E.iushr (q := 99) X0 hx (hb hby at_98) ?_
          refine E.sipush (q := 102) (v := (255 : Int32)) X0 hx (hb hby at_99) rfl ?_
          refine E.iand (q := 103) X0 hx (hb hby at_102) ?_
          refine E.i2c (q := 104) X0 hx (hb hby at_103) ?_
          exact Jv2b _ (own_ch rfl)
        · refine E.ifN (q := 90) X0 hx (hb hby at_87) (XT.i0_eq_f hqv2b) ?_
          refine E.iload (q := 92) X0 hx (hb hby at_90) rfl ?_
          refine E.goto (q := 104) X0 hx (hb hby at_92) ?_
          exact Jv2b _ bv1b
      by_cases hqv2a : sv = (0 : Int32)
      · refine E.ifY (q := 74) X0 hx (hb hby at_66) (XT.i0_eq_t hqv2a) ?_
        refine E.iloadN (q := 75) X0 hx (hb hby at_74) rfl ?_
        refine E.bipush (q := 77) (v := (16 : Int32)) X0 hx (hb hby at_75) rfl ?_
        refine E.iushr (q := 78) X0 hx (hb hby at_77) ?_
        refine E.sipush (q := 81) (v := (255 : Int32)) X0 hx (hb hby at_78) rfl ?_
        refine E.iand (q := 82) X0 hx (hb hby at_81) ?_
        refine E.i2c (q := 83) X0 hx (hb hby at_82) ?_
        exact Jv2a _ (own_ch rfl)
      · refine E.ifN (q := 69) X0 hx (hb hby at_66) (XT.i0_eq_f hqv2a) ?_
        refine E.iload (q := 71) X0 hx (hb hby at_69) rfl ?_
        refine E.goto (q := 83) X0 hx (hb hby at_71) ?_
        exact Jv2a _ bv1a
    by_cases hqsv : (md &&& (2 : Int32)) = (0 : Int32)
    · refine E.ifY (q := 61) X0 hx (hb hby at_54) (XT.i0_eq_t hqsv) ?_
      refine E.iconst (q := 62) (v := (0 : Int32)) X0 hx (hb hby at_61) rfl ?_
      exact Jsv _
    · refine E.ifN (q := 57) X0 hx (hb hby at_54) (XT.i0_eq_f hqsv) ?_
      refine E.iconst (q := 58) (v := (1 : Int32)) X0 hx (hb hby at_57) rfl ?_
      refine E.goto (q := 62) X0 hx (hb hby at_58) ?_
      exact Jsv _
  by_cases hqk2 : (md &&& (1 : Int32)) = (0 : Int32)
  · refine E.ifY (q := 20) X0 hx (hb hby at_12) (XT.i0_eq_t hqk2) ?_
    refine E.iloadN (q := 21) X0 hx (hb hby at_20) rfl ?_
    refine E.bipush (q := 23) (v := (8 : Int32)) X0 hx (hb hby at_21) rfl ?_
    refine E.iushr (q := 24) X0 hx (hb hby at_23) ?_
    refine E.sipush (q := 27) (v := (255 : Int32)) X0 hx (hb hby at_24) rfl ?_
    refine E.iand (q := 28) X0 hx (hb hby at_27) ?_
    refine E.i2c (q := 29) X0 hx (hb hby at_28) ?_
    exact Jk2 _ (own_ch rfl)
  · refine E.ifN (q := 15) X0 hx (hb hby at_12) (XT.i0_eq_f hqk2) ?_
    refine E.iload (q := 17) X0 hx (hb hby at_15) rfl ?_
    refine E.goto (q := 29) X0 hx (hb hby at_17) ?_
    exact Jk2 _ bk1
theorem own_cs {args : Array Value} {s : State} (hj : ∀ w ∈ jdkStatics_1, w.before args s = true) : ∃ cs : Int32, ¬ cs = (0 : Int32) ∧ Sta s s.heap "java/lang/String" "COMPACT_STRINGS" "Z" (.int cs) := by
  obtain ⟨cs, hv⟩ := is_v (Cond.before_iff.mp (hj _ (List.mem_of_getElem? (i := 1) rfl)))
  refine ⟨cs, fun q => ?_, Sta.start (args := args) hv (Or.inl (hj _ (List.mem_of_getElem? (i := 0) rfl)))⟩
  have h := (hj _ (List.mem_of_getElem? (i := 2) rfl))
  subst q
  simp only [Cond.before, Cond.holds, Cond.value] at h
  rw [hv] at h
  simp [Term.eval] at h
set_option maxRecDepth 65536 in
set_option maxHeartbeats 40000000 in
theorem comes_1 {Post : Tables → Env → Array Value → State → Outcome → State → Prop} (hpost : ∀ tb e args s v u, (limb_1_1.after args s (.returned v) u = true ∧ limb_1_2.after args s (.returned v) u = true) → ReturnedEndW s (.returned v) u (Jvm.fieldLocs frame_1_writes args s ++ Jvm.arrayLocs frame_1_arrays args s ++ Jvm.staticLocs frame_1_statics s) 40 2240 → Post tb e args s (.returned v) u) :
    ArmFor flags0 classFile x code maxLocals ret World_1 tables_1 room_1 Calls_1 rest_1 Pre_1 Post := by
  intro l hfl _ _ p e ha hc hk s m args below hf hA hF happ hP
  obtain ⟨hcalls, hrest, hpre⟩ := hP
  obtain ⟨-, -, -, hnamed, -, -, -, hat⟩ := (Spec.applies_iff hf).mp happ
  obtain ⟨hg, hn⟩ := and_e (Cond.before_iff.mp (show (Jvm.Cond.and given_1 narrow_1).before args s = true from hpre))
  obtain ⟨g0, hg⟩ := and_e hg
  obtain ⟨ga0, hg⟩ := and_e hg
  obtain ⟨ga1, hg⟩ := and_e hg
  obtain ⟨ga2, hg⟩ := and_e hg
  obtain ⟨ga3, hg⟩ := and_e hg
  obtain ⟨w0, w1, w2, w3, w4, rfl⟩ : ∃ w0 w1 w2 w3 w4 : Value, args = #[w0, w1, w2, w3, w4] := by
    have hs : args.size = 5 := by simpa [Cond.value, given_1] using g0
    obtain ⟨L⟩ := args
    match L, hs with
    | [w0, w1, w2, w3, w4], _ => exact ⟨w0, w1, w2, w3, w4, rfl⟩
  have hw := fun d (hd : d ∈ tables_1) => atoms_spec (ws := Jvm.Cond.code x code maxLocals ret :: tables_1) hat d (List.mem_cons_of_mem _ hd)
  have hj := (atoms_of (own := restOwn_1) jdkStatics_1 (show (jdkStatics_1.foldr Jvm.Cond.and restOwn_1).before _ s = true from hrest)).1
  obtain ⟨cs, hcs, S0⟩ := own_cs hj
  obtain ⟨i0, ei0⟩ := is_v ga0
  obtain rfl : w0 = (.int i0) := Option.some.inj ei0
  obtain ⟨i1, ei1⟩ := is_v ga1
  obtain rfl : w1 = (.int i1) := Option.some.inj ei1
  obtain ⟨i2, ei2⟩ := isL_v ga2
  obtain rfl : w2 = (.long i2) := Option.some.inj ei2
  obtain ⟨i3, ei3⟩ := isL_v ga3
  obtain rfl : w3 = (.long i3) := Option.some.inj ei3
  obtain ⟨i4, ei4⟩ := is_v hg
  obtain rfl : w4 = (.int i4) := Option.some.inj ei4
  obtain ⟨n, o, h1, h2, h3, _, L, rfl, ⟨rfl, N⟩, hq⟩ := rm0 l s _ hw i0 i1 i2 i3 i4 s.heap cs hcs S0 p e ha hc hk s m _ below hf ((Spec.applies_iff_loose hf).mp happ).1 ⟨rfl, State.Warmed39.refl s, rfl⟩ trivial
  exact ⟨n, _, h1, h2, h3, hpost _ _ _ _ _ _ ⟨Cond.after_iff.mpr rfl, Cond.after_iff.mpr (eq_i res_at (Term.int_eval (1)) rfl)⟩ ⟨hq.1, hq.2.1, hq.2.2.1, (hq.2.2.2.sift fun y hy => Or.inr (N y hy)).mono (by decide) (by decide)⟩⟩
theorem main_1_1 : Claimed_1_1 := comes_1 fun _ _ _ _ _ _ h hF => ⟨h.1, hF⟩
theorem main_1_2 : Claimed_1_2 := comes_1 fun _ _ _ _ _ _ h hF => ⟨h.2, hF⟩
end Jvm.Pilot.@@N@@
namespace Jvm.Pilot.@@N@@
open Jvm Jvm.ClassFile Sem Op Lib Jvm.Free Jvm.Stand Jvm.Pilot.@@N@@.Jvm.D
/-! MADE BY PROGRAM (witnessworld.py) out of the Statement's table words and the real class files: 21 classes; the members and pool entries that the words name. The judged class is class 1, her method 1. -/
namespace start1
open Jvm.ClassFile
def u (s : String) : CpInfo := .utf8 (stringToUtf16 s)
/-- a pool by its gaps: so many unusable entries, then the entry; so many at the end -/
def gap : Nat → List CpInfo → List CpInfo
  | 0, r => r
  | n + 1, r => .unusable :: gap n r
def poolList (es : List (Nat × CpInfo)) (last : Nat) : List CpInfo := es.foldr (fun e r => gap e.1 (e.2 :: r)) (gap last [])
def pool (es : List (Nat × CpInfo)) (last : Nat) : Array CpInfo := ⟨poolList es last⟩
def fileOf (pool : Array CpInfo) (this : Nat) (attrs : Array Attribute := #[]) (ms : Array MethodInfo := #[]) (fl : Nat := 33) (sup : Nat := 0) (ifs : Array Nat := #[]) (fds : Array FieldInfo := #[]) : ClassFile where
  minorVersion := 0
  majorVersion := 65
  constantPool := pool
  accessFlags := fl
  thisClass := this
  superClass := sup
  interfaces := ifs
  fields := fds
  methods := ms
  attributes := attrs
def plain (name : String) (sup : Option ClassId) : Class where
  name := name
  kind := .ordinary
  loader := none
  accessFlags := 33
  super := sup
  interfaces := #[]
  cf := none
  fields := #[]
  methods := #[]
  instanceTypes := #[]
  staticTypes := #[]
  resolved := #[]
  callSites := []
  init := .initialized
  statics := none
  mirror := none

def pool0 : Array CpInfo := pool [(5, u "<init>"), (0, u "()V"), (1, .class_ 10), (1, u "java/lang/Object")] 113

def k0c0 : Code := { maxStack := 0, maxLocals := 1, code := object_method_1_code, exceptionTable := #[], attributes := #[] }
def k0m0 : Method := { name := "<init>", desc := "()V", sig := { parameters := [], returnType := none }, accessFlags := 1, code := some k0c0 }
/-- java/lang/Object -/
def k0 : Class := { plain "java/lang/Object" none with
  accessFlags := 33
  interfaces := #[]
  cf := some (fileOf pool0 8 #[] #[{ accessFlags := 1, nameIndex := 5, descriptorIndex := 6, attributes := #[] }] 33 0 #[] #[])
  fields := #[]
  methods := #[k0m0]
  instanceTypes := #[]
  staticTypes := #[]
  resolved := Array.replicate 124 none
  statics := none }

def pool1 : Array CpInfo := pool [(2, .class_ 4), (1, u "java/lang/Object"), (0, u "<init>"), (0, u "()V"), (0, .methodref 8 9), (0, .class_ 10), (0, .nameAndType 11 12), (0, u "java/lang/String"), (0, u "valueOf"), (0, u "(C)Ljava/lang/String;"), (0, .methodref 8 14), (0, .nameAndType 5 15), (0, u "([C)V"), (0, .class_ 17), (0, u "com/example/people_in_groups/peopleingroups/model/ExtensionPair"), (0, .methodref 16 19), (0, .nameAndType 5 20), (0, u "(Ljava/lang/String;Ljava/lang/String;J)V"), (0, .methodref 16 22), (0, .nameAndType 23 24), (0, u "equals"), (0, u "(Ljava/lang/Object;)Z"), (0, .class_ 26), (0, u "com/example/people_in_groups/peopleingroups/model/ExtensionPairEqualsPinLaw"), (2, u "law"), (0, u "(IIJJI)Z")] 5

def k1m0 : Method := { name := "<init>", desc := "()V", sig := { parameters := [], returnType := none }, accessFlags := 1, code := none }
def k1c1 : Code := { maxStack := 6, maxLocals := 26, code := code, exceptionTable := #[], attributes := #[] }
def k1m1 : Method := { name := "law", desc := "(IIJJI)Z", sig := { parameters := [.int, .int, .long, .long, .int], returnType := some .boolean }, accessFlags := 9, code := some k1c1 }
/-- com/example/people_in_groups/peopleingroups/model/ExtensionPairEqualsPinLaw -/
def k1 : Class := { plain "com/example/people_in_groups/peopleingroups/model/ExtensionPairEqualsPinLaw" (some 0) with
  accessFlags := 49
  interfaces := #[]
  cf := some (fileOf pool1 25 #[] #[{ accessFlags := 1, nameIndex := 5, descriptorIndex := 6, attributes := #[] }, { accessFlags := 9, nameIndex := 29, descriptorIndex := 30, attributes := #[] }] 49 2 #[] #[])
  fields := #[]
  methods := #[k1m0, k1m1]
  instanceTypes := #[]
  staticTypes := #[]
  resolved := Array.replicate 36 none
  statics := none }

def pool2 : Array CpInfo := pool [(1, .class_ 2), (0, u "java/io/Serializable"), (0, .class_ 4), (0, u "java/lang/Object")] 2

/-- java/io/Serializable -/
def k2 : Class := { plain "java/io/Serializable" (some 0) with
  accessFlags := 1537
  interfaces := #[]
  cf := some (fileOf pool2 1 #[] #[] 1537 3 #[] #[])
  fields := #[]
  methods := #[]
  instanceTypes := #[]
  staticTypes := #[]
  resolved := Array.replicate 7 none
  statics := none }

def pool3 : Array CpInfo := pool [(1, .class_ 2), (0, u "java/lang/Comparable"), (0, .class_ 4), (0, u "java/lang/Object")] 7

/-- java/lang/Comparable -/
def k3 : Class := { plain "java/lang/Comparable" (some 0) with
  accessFlags := 1537
  interfaces := #[]
  cf := some (fileOf pool3 1 #[] #[] 1537 3 #[] #[])
  fields := #[]
  methods := #[]
  instanceTypes := #[]
  staticTypes := #[]
  resolved := Array.replicate 12 none
  statics := none }

def pool4 : Array CpInfo := pool [(2, .class_ 4), (1, u "java/lang/CharSequence"), (42, .class_ 48), (0, u "java/lang/CharSequence$1CodePointIterator"), (10, .class_ 60), (0, u "java/lang/CharSequence$1CharIterator"), (5, .class_ 67), (0, u "java/lang/Object")] 63

/-- java/lang/CharSequence -/
def k4 : Class := { plain "java/lang/CharSequence" (some 0) with
  accessFlags := 1537
  interfaces := #[]
  cf := some (fileOf pool4 2 #[.nestMembers #[47, 59]] #[] 1537 66 #[] #[])
  fields := #[]
  methods := #[]
  instanceTypes := #[]
  staticTypes := #[]
  resolved := Array.replicate 131 none
  statics := none }

def pool5 : Array CpInfo := pool [(1, .class_ 2), (0, u "java/lang/constant/Constable"), (0, .class_ 4), (0, u "java/lang/Object")] 6

/-- java/lang/constant/Constable -/
def k5 : Class := { plain "java/lang/constant/Constable" (some 0) with
  accessFlags := 1537
  interfaces := #[]
  cf := some (fileOf pool5 1 #[] #[] 1537 3 #[] #[])
  fields := #[]
  methods := #[]
  instanceTypes := #[]
  staticTypes := #[]
  resolved := Array.replicate 11 none
  statics := none }

def pool6 : Array CpInfo := pool [(1, .class_ 2), (0, u "java/lang/constant/ConstantDesc"), (0, .class_ 4), (0, u "java/lang/Object")] 32

/-- java/lang/constant/ConstantDesc -/
def k6 : Class := { plain "java/lang/constant/ConstantDesc" (some 0) with
  accessFlags := 1537
  interfaces := #[]
  cf := some (fileOf pool6 1 #[] #[] 1537 3 #[] #[])
  fields := #[]
  methods := #[]
  instanceTypes := #[]
  staticTypes := #[]
  resolved := Array.replicate 37 none
  statics := none }

def pool7 : Array CpInfo := pool [(1, .methodref 2 3), (0, .class_ 4), (0, .nameAndType 5 6), (0, u "java/lang/Object"), (0, u "<init>"), (0, u "()V"), (2, .fieldref 10 11), (0, .class_ 12), (0, .nameAndType 13 14), (0, u "java/lang/String"), (0, u "value"), (0, u "[B"), (0, .fieldref 10 16), (0, .nameAndType 17 18), (0, u "coder"), (0, u "B"), (2, u "hash"), (0, u "I"), (2, u "hashIsZero"), (0, u "Z"), (0, .methodref 10 28), (0, .nameAndType 5 29), (0, u "([CIILjava/lang/Void;)V"), (8, .fieldref 10 39), (0, .nameAndType 40 26), (0, u "COMPACT_STRINGS"), (1, .class_ 44), (1, u "java/lang/StringUTF16"), (0, u "compress"), (1, .methodref 42 48), (0, .nameAndType 49 50), (0, u "coderFromArrayLen"), (0, u "([BI)B"), (2, u "toBytes"), (53, .class_ 109), (1, u "java/lang/StringLatin1"), (67, .methodref 42 178), (0, .nameAndType 45 179), (0, u "([CII)[B"), (29, .methodref 10 210), (0, .nameAndType 5 211), (0, u "([BB)V"), (157, u "(C)Z"), (171, .methodref 107 542), (0, .nameAndType 543 544), (0, u "equals"), (0, u "([B[B)Z"), (28, u "(Ljava/lang/Object;)Z"), (1, .class_ 576), (0, u "java/lang/CharSequence"), (22, u "CASE_INSENSITIVE_ORDER"), (0, u "Ljava/util/Comparator;"), (181, u "valueOf"), (0, u "(C)Ljava/lang/String;"), (226, u "([C)V"), (4, .methodref 107 1016), (0, .nameAndType 1017 369), (0, u "canEncode"), (0, .methodref 107 1019), (0, .nameAndType 53 1020), (0, u "(C)[B"), (80, u "serialPersistentFields"), (0, u "[Ljava/io/ObjectStreamField;"), (0, .class_ 1104), (0, u "java/lang/String$CaseInsensitiveComparator"), (1, .class_ 1107), (0, u "java/io/Serializable"), (0, .class_ 1109), (0, u "java/lang/Comparable"), (0, .class_ 1111), (0, u "java/lang/constant/Constable"), (0, .class_ 1113), (0, u "java/lang/constant/ConstantDesc"), (2, u "serialVersionUID"), (0, u "J"), (3, u "REPL"), (0, u "C"), (2, u "LATIN1"), (1, u "UTF16")] 323

def k7m0 : Method := { name := "<init>", desc := "()V", sig := { parameters := [], returnType := none }, accessFlags := 1, code := none }
def k7c1 : Code := { maxStack := 5, maxLocals := 2, code := jdk_42_method_3_code, exceptionTable := #[], attributes := #[] }
def k7m1 : Method := { name := "<init>", desc := "([C)V", sig := { parameters := [(.array .char)], returnType := none }, accessFlags := 1, code := some k7c1 }
def k7c2 : Code := { maxStack := 2, maxLocals := 3, code := jdk_42_method_66_code, exceptionTable := #[], attributes := #[] }
def k7m2 : Method := { name := "equals", desc := "(Ljava/lang/Object;)Z", sig := { parameters := [(.object "java/lang/Object")], returnType := some .boolean }, accessFlags := 1, code := some k7c2 }
def k7c3 : Code := { maxStack := 4, maxLocals := 1, code := jdk_42_method_139_code, exceptionTable := #[], attributes := #[] }
def k7m3 : Method := { name := "valueOf", desc := "(C)Ljava/lang/String;", sig := { parameters := [.char], returnType := some (.object "java/lang/String") }, accessFlags := 9, code := some k7c3 }
def k7c4 : Code := { maxStack := 4, maxLocals := 6, code := jdk_42_method_149_code, exceptionTable := #[], attributes := #[] }
def k7m4 : Method := { name := "<init>", desc := "([CIILjava/lang/Void;)V", sig := { parameters := [(.array .char), .int, .int, (.object "java/lang/Void")], returnType := none }, accessFlags := 2, code := some k7c4 }
def k7c5 : Code := { maxStack := 2, maxLocals := 3, code := jdk_42_method_151_code, exceptionTable := #[], attributes := #[] }
def k7m5 : Method := { name := "<init>", desc := "([BB)V", sig := { parameters := [(.array .byte), .byte], returnType := none }, accessFlags := 0, code := some k7c5 }
/-- java/lang/String -/
def k7 : Class := { plain "java/lang/String" (some 0) with
  accessFlags := 49
  interfaces := #[2, 3, 4, 5, 6]
  cf := some (fileOf pool7 10 #[.nestMembers #[1103]] #[{ accessFlags := 1, nameIndex := 5, descriptorIndex := 6, attributes := #[] }, { accessFlags := 1, nameIndex := 5, descriptorIndex := 1010, attributes := #[] }, { accessFlags := 1, nameIndex := 543, descriptorIndex := 573, attributes := #[] }, { accessFlags := 9, nameIndex := 782, descriptorIndex := 783, attributes := #[] }, { accessFlags := 2, nameIndex := 5, descriptorIndex := 29, attributes := #[] }, { accessFlags := 0, nameIndex := 5, descriptorIndex := 211, attributes := #[] }] 49 2 #[1106, 1108, 575, 1110, 1112] #[{ accessFlags := 18, nameIndex := 13, descriptorIndex := 14, attributes := #[] }, { accessFlags := 18, nameIndex := 17, descriptorIndex := 18, attributes := #[] }, { accessFlags := 2, nameIndex := 21, descriptorIndex := 22, attributes := #[] }, { accessFlags := 2, nameIndex := 25, descriptorIndex := 26, attributes := #[] }, { accessFlags := 26, nameIndex := 1116, descriptorIndex := 1117, attributes := #[] }, { accessFlags := 24, nameIndex := 40, descriptorIndex := 26, attributes := #[] }, { accessFlags := 26, nameIndex := 1101, descriptorIndex := 1102, attributes := #[] }, { accessFlags := 26, nameIndex := 1121, descriptorIndex := 1122, attributes := #[] }, { accessFlags := 25, nameIndex := 599, descriptorIndex := 600, attributes := #[] }, { accessFlags := 24, nameIndex := 1125, descriptorIndex := 18, attributes := #[] }, { accessFlags := 24, nameIndex := 1127, descriptorIndex := 18, attributes := #[] }])
  fields := #[{ name := "value", type := (.array .byte), accessFlags := 18, slot := 0, constantValue := 0 }, { name := "coder", type := .byte, accessFlags := 18, slot := 1, constantValue := 0 }, { name := "hash", type := .int, accessFlags := 2, slot := 2, constantValue := 0 }, { name := "hashIsZero", type := .boolean, accessFlags := 2, slot := 3, constantValue := 0 }, { name := "serialVersionUID", type := .long, accessFlags := 26, slot := 0, constantValue := 0 }, { name := "COMPACT_STRINGS", type := .boolean, accessFlags := 24, slot := 1, constantValue := 0 }, { name := "serialPersistentFields", type := (.array (.object "java/io/ObjectStreamField")), accessFlags := 26, slot := 2, constantValue := 0 }, { name := "REPL", type := .char, accessFlags := 26, slot := 3, constantValue := 0 }, { name := "CASE_INSENSITIVE_ORDER", type := (.object "java/util/Comparator"), accessFlags := 25, slot := 4, constantValue := 0 }, { name := "LATIN1", type := .byte, accessFlags := 24, slot := 5, constantValue := 0 }, { name := "UTF16", type := .byte, accessFlags := 24, slot := 6, constantValue := 0 }]
  methods := #[k7m0, k7m1, k7m2, k7m3, k7m4, k7m5]
  instanceTypes := #[(.array .byte), .byte, .int, .boolean]
  staticTypes := #[.long, .boolean, (.array (.object "java/io/ObjectStreamField")), .char, (.object "java/util/Comparator"), .byte, .byte]
  resolved := Array.replicate 1451 none
  statics := some 0 }

def pool8 : Array CpInfo := pool [(4, .class_ 6), (1, u "java/lang/Object"), (0, u "<init>"), (0, u "()V"), (5, .class_ 16), (1, u "java/lang/StringLatin1"), (73, u "canEncode"), (14, u "(C)Z"), (15, u "$assertionsDisabled"), (0, u "Z"), (98, .class_ 223), (1, u "java/lang/StringLatin1$LinesSpliterator"), (57, u "equals"), (0, u "([B[B)Z"), (97, u "toBytes"), (1, u "(C)[B"), (7, .class_ 391), (0, u "java/lang/StringLatin1$CharsSpliterator")] 3

def k8m0 : Method := { name := "<init>", desc := "()V", sig := { parameters := [], returnType := none }, accessFlags := 0, code := none }
def k8c1 : Code := { maxStack := 2, maxLocals := 1, code := jdk_43_method_3_code, exceptionTable := #[], attributes := #[] }
def k8m1 : Method := { name := "canEncode", desc := "(C)Z", sig := { parameters := [.char], returnType := some .boolean }, accessFlags := 9, code := some k8c1 }
def k8c2 : Code := { maxStack := 3, maxLocals := 3, code := jdk_43_method_13_code, exceptionTable := #[], attributes := #[] }
def k8m2 : Method := { name := "equals", desc := "([B[B)Z", sig := { parameters := [(.array .byte), (.array .byte)], returnType := some .boolean }, accessFlags := 9, code := some k8c2 }
def k8c3 : Code := { maxStack := 4, maxLocals := 1, code := jdk_43_method_46_code, exceptionTable := #[], attributes := #[] }
def k8m3 : Method := { name := "toBytes", desc := "(C)[B", sig := { parameters := [.char], returnType := some (.array .byte) }, accessFlags := 9, code := some k8c3 }
/-- java/lang/StringLatin1 -/
def k8 : Class := { plain "java/lang/StringLatin1" (some 0) with
  accessFlags := 48
  interfaces := #[]
  cf := some (fileOf pool8 14 #[.nestMembers #[390, 221]] #[{ accessFlags := 0, nameIndex := 7, descriptorIndex := 8, attributes := #[] }, { accessFlags := 9, nameIndex := 90, descriptorIndex := 105, attributes := #[] }, { accessFlags := 9, nameIndex := 281, descriptorIndex := 282, attributes := #[] }, { accessFlags := 9, nameIndex := 380, descriptorIndex := 382, attributes := #[] }] 48 4 #[] #[{ accessFlags := 4120, nameIndex := 121, descriptorIndex := 122, attributes := #[] }])
  fields := #[{ name := "$assertionsDisabled", type := .boolean, accessFlags := 4120, slot := 0, constantValue := 0 }]
  methods := #[k8m0, k8m1, k8m2, k8m3]
  instanceTypes := #[]
  staticTypes := #[.boolean]
  resolved := Array.replicate 395 none
  statics := none }

def pool9 : Array CpInfo := pool [(6, .class_ 8), (1, u "java/lang/Object"), (0, u "<init>"), (0, u "()V"), (1, .class_ 14), (1, u "java/lang/StringUTF16"), (31, u "$assertionsDisabled"), (0, u "Z"), (13, u "HI_BYTE_SHIFT"), (0, u "I"), (2, u "LO_BYTE_SHIFT"), (49, .methodref 12 116), (0, .nameAndType 117 118), (0, u "compress"), (0, u "([CI[BII)I"), (3, u "([CII)[B"), (138, u "coderFromArrayLen"), (0, u "([BI)B"), (106, .class_ 371), (1, u "java/lang/StringUTF16$LinesSpliterator"), (58, u "MAX_LENGTH"), (196, .class_ 628), (0, u "java/lang/StringUTF16$CodePointsSpliterator"), (0, .class_ 630), (0, u "java/lang/StringUTF16$CharsSpliterator")] 4

def k9m0 : Method := { name := "<init>", desc := "()V", sig := { parameters := [], returnType := none }, accessFlags := 0, code := none }
def k9c1 : Code := { maxStack := 2, maxLocals := 2, code := jdk_52_method_15_code, exceptionTable := #[], attributes := #[] }
def k9m1 : Method := { name := "coderFromArrayLen", desc := "([BI)B", sig := { parameters := [(.array .byte), .int], returnType := some .byte }, accessFlags := 8, code := some k9c1 }
def k9c2 : Code := { maxStack := 5, maxLocals := 6, code := jdk_52_method_16_code, exceptionTable := #[], attributes := #[] }
def k9m2 : Method := { name := "compress", desc := "([CII)[B", sig := { parameters := [(.array .char), .int, .int], returnType := some (.array .byte) }, accessFlags := 9, code := some k9c2 }
def k9c3 : Code := { maxStack := 3, maxLocals := 7, code := jdk_52_method_21_code, exceptionTable := #[], attributes := #[] }
def k9m3 : Method := { name := "compress", desc := "([CI[BII)I", sig := { parameters := [(.array .char), .int, (.array .byte), .int, .int], returnType := some .int }, accessFlags := 9, code := some k9c3 }
/-- java/lang/StringUTF16 -/
def k9 : Class := { plain "java/lang/StringUTF16" (some 0) with
  accessFlags := 48
  interfaces := #[]
  cf := some (fileOf pool9 12 #[.nestMembers #[627, 629, 369]] #[{ accessFlags := 0, nameIndex := 9, descriptorIndex := 10, attributes := #[] }, { accessFlags := 8, nameIndex := 261, descriptorIndex := 262, attributes := #[] }, { accessFlags := 9, nameIndex := 117, descriptorIndex := 122, attributes := #[] }, { accessFlags := 9, nameIndex := 117, descriptorIndex := 118, attributes := #[] }] 48 6 #[] #[{ accessFlags := 26, nameIndex := 61, descriptorIndex := 62, attributes := #[] }, { accessFlags := 26, nameIndex := 65, descriptorIndex := 62, attributes := #[] }, { accessFlags := 24, nameIndex := 430, descriptorIndex := 62, attributes := #[] }, { accessFlags := 4120, nameIndex := 46, descriptorIndex := 47, attributes := #[] }])
  fields := #[{ name := "HI_BYTE_SHIFT", type := .int, accessFlags := 26, slot := 0, constantValue := 0 }, { name := "LO_BYTE_SHIFT", type := .int, accessFlags := 26, slot := 1, constantValue := 0 }, { name := "MAX_LENGTH", type := .int, accessFlags := 24, slot := 2, constantValue := 0 }, { name := "$assertionsDisabled", type := .boolean, accessFlags := 4120, slot := 3, constantValue := 0 }]
  methods := #[k9m0, k9m1, k9m2, k9m3]
  instanceTypes := #[]
  staticTypes := #[.int, .int, .int, .boolean]
  resolved := Array.replicate 635 none
  statics := none }

def pool10 : Array CpInfo := pool [(1, .methodref 2 3), (0, .class_ 4), (0, .nameAndType 5 6), (0, u "java/lang/Object"), (0, u "<init>"), (0, u "()V"), (0, .string 8), (0, u "key"), (0, .methodref 10 11), (0, .class_ 12), (0, .nameAndType 13 14), (0, u "java/util/Objects"), (0, u "requireNonNull"), (0, u "(Ljava/lang/Object;Ljava/lang/String;)Ljava/lang/Object;"), (0, .class_ 16), (0, u "java/lang/String"), (0, .fieldref 18 19), (0, .class_ 20), (0, .nameAndType 8 21), (0, u "com/example/people_in_groups/peopleingroups/model/ExtensionPair"), (0, u "Ljava/lang/String;"), (0, .string 23), (0, u "value"), (0, .fieldref 18 25), (0, .nameAndType 23 21), (0, .fieldref 18 27), (0, .nameAndType 28 29), (0, u "seq"), (0, u "J"), (0, .methodref 15 31), (0, .nameAndType 32 33), (0, u "equals"), (0, u "(Ljava/lang/Object;)Z"), (14, u "(Ljava/lang/String;Ljava/lang/String;J)V")] 28

def k10c0 : Code := { maxStack := 3, maxLocals := 5, code := prog_7_method_1_code, exceptionTable := #[], attributes := #[] }
def k10m0 : Method := { name := "<init>", desc := "(Ljava/lang/String;Ljava/lang/String;J)V", sig := { parameters := [(.object "java/lang/String"), (.object "java/lang/String"), .long], returnType := none }, accessFlags := 1, code := some k10c0 }
def k10c1 : Code := { maxStack := 4, maxLocals := 3, code := prog_7_method_5_code, exceptionTable := #[], attributes := #[] }
def k10m1 : Method := { name := "equals", desc := "(Ljava/lang/Object;)Z", sig := { parameters := [(.object "java/lang/Object")], returnType := some .boolean }, accessFlags := 1, code := some k10c1 }
/-- com/example/people_in_groups/peopleingroups/model/ExtensionPair -/
def k10 : Class := { plain "com/example/people_in_groups/peopleingroups/model/ExtensionPair" (some 0) with
  accessFlags := 33
  interfaces := #[]
  cf := some (fileOf pool10 18 #[] #[{ accessFlags := 1, nameIndex := 5, descriptorIndex := 48, attributes := #[] }, { accessFlags := 1, nameIndex := 32, descriptorIndex := 33, attributes := #[] }] 33 2 #[] #[{ accessFlags := 18, nameIndex := 8, descriptorIndex := 21, attributes := #[] }, { accessFlags := 18, nameIndex := 23, descriptorIndex := 21, attributes := #[] }, { accessFlags := 18, nameIndex := 28, descriptorIndex := 29, attributes := #[] }])
  fields := #[{ name := "key", type := (.object "java/lang/String"), accessFlags := 18, slot := 0, constantValue := 0 }, { name := "value", type := (.object "java/lang/String"), accessFlags := 18, slot := 1, constantValue := 0 }, { name := "seq", type := .long, accessFlags := 18, slot := 2, constantValue := 0 }]
  methods := #[k10m0, k10m1]
  instanceTypes := #[(.object "java/lang/String"), (.object "java/lang/String"), .long]
  staticTypes := #[]
  resolved := Array.replicate 77 none
  statics := none }

def pool11 : Array CpInfo := pool [(2, .class_ 4), (1, u "java/lang/Object"), (0, u "<init>"), (0, u "()V"), (35, .class_ 44), (1, u "java/util/Objects"), (0, u "requireNonNull"), (48, u "(Ljava/lang/Object;Ljava/lang/String;)Ljava/lang/Object;")] 89

def k11m0 : Method := { name := "<init>", desc := "()V", sig := { parameters := [], returnType := none }, accessFlags := 2, code := none }
def k11c1 : Code := { maxStack := 3, maxLocals := 2, code := jdk_31_method_11_code, exceptionTable := #[], attributes := #[] }
def k11m1 : Method := { name := "requireNonNull", desc := "(Ljava/lang/Object;Ljava/lang/String;)Ljava/lang/Object;", sig := { parameters := [(.object "java/lang/Object"), (.object "java/lang/String")], returnType := some (.object "java/lang/Object") }, accessFlags := 9, code := some k11c1 }
/-- java/util/Objects -/
def k11 : Class := { plain "java/util/Objects" (some 0) with
  accessFlags := 49
  interfaces := #[]
  cf := some (fileOf pool11 42 #[] #[{ accessFlags := 2, nameIndex := 5, descriptorIndex := 6, attributes := #[] }, { accessFlags := 9, nameIndex := 45, descriptorIndex := 94, attributes := #[] }] 49 2 #[] #[])
  fields := #[]
  methods := #[k11m0, k11m1]
  instanceTypes := #[]
  staticTypes := #[]
  resolved := Array.replicate 184 none
  statics := none }

def pool12 : Array CpInfo := pool [(2, .class_ 4), (1, u "java/lang/Object"), (0, u "<init>"), (0, u "()V"), (17, .class_ 26), (1, u "jdk/internal/util/Preconditions"), (28, .class_ 56), (0, u "jdk/internal/util/Preconditions$4"), (57, .class_ 115), (0, u "jdk/internal/util/Preconditions$1"), (7, u "SIOOBE_FORMATTER"), (0, u "Ljava/util/function/BiFunction;"), (0, .class_ 126), (0, u "jdk/internal/util/Preconditions$2"), (3, u "AIOOBE_FORMATTER"), (0, .class_ 132), (0, u "jdk/internal/util/Preconditions$3"), (3, u "IOOBE_FORMATTER")] 57

def k12m0 : Method := { name := "<init>", desc := "()V", sig := { parameters := [], returnType := none }, accessFlags := 1, code := none }
/-- jdk/internal/util/Preconditions -/
def k12 : Class := { plain "jdk/internal/util/Preconditions" (some 0) with
  accessFlags := 33
  interfaces := #[]
  cf := some (fileOf pool12 24 #[.nestMembers #[55, 131, 125, 114]] #[{ accessFlags := 1, nameIndex := 5, descriptorIndex := 6, attributes := #[] }] 33 2 #[] #[{ accessFlags := 25, nameIndex := 123, descriptorIndex := 124, attributes := #[] }, { accessFlags := 25, nameIndex := 130, descriptorIndex := 124, attributes := #[] }, { accessFlags := 25, nameIndex := 136, descriptorIndex := 124, attributes := #[] }])
  fields := #[{ name := "SIOOBE_FORMATTER", type := (.object "java/util/function/BiFunction"), accessFlags := 25, slot := 0, constantValue := 0 }, { name := "AIOOBE_FORMATTER", type := (.object "java/util/function/BiFunction"), accessFlags := 25, slot := 1, constantValue := 0 }, { name := "IOOBE_FORMATTER", type := (.object "java/util/function/BiFunction"), accessFlags := 25, slot := 2, constantValue := 0 }]
  methods := #[k12m0]
  instanceTypes := #[]
  staticTypes := #[(.object "java/util/function/BiFunction"), (.object "java/util/function/BiFunction"), (.object "java/util/function/BiFunction")]
  resolved := Array.replicate 194 none
  statics := some 1 }

def pool13 : Array CpInfo := pool [(9, u "<init>"), (6, .class_ 18), (1, u "java/lang/Object"), (0, u "()V"), (1, .class_ 23), (1, u "jdk/internal/util/ArraysSupport"), (0, u "LOG2_ARRAY_LONG_INDEX_SCALE"), (0, u "I"), (2, u "U"), (0, u "Ljdk/internal/misc/Unsafe;"), (8, u "BIG_ENDIAN"), (0, u "Z"), (8, u "LOG2_BYTE_BIT_SIZE"), (4, u "LOG2_ARRAY_INT_INDEX_SCALE"), (54, u "JLA"), (0, u "Ljdk/internal/access/JavaLangAccess;"), (11, u "LOG2_ARRAY_BOOLEAN_INDEX_SCALE"), (9, u "LOG2_ARRAY_BYTE_INDEX_SCALE"), (5, u "LOG2_ARRAY_CHAR_INDEX_SCALE"), (5, u "LOG2_ARRAY_SHORT_INDEX_SCALE"), (18, u "LOG2_ARRAY_FLOAT_INDEX_SCALE"), (24, u "LOG2_ARRAY_DOUBLE_INDEX_SCALE"), (89, u "T_BOOLEAN"), (2, u "T_CHAR"), (1, u "T_FLOAT"), (1, u "T_DOUBLE"), (1, u "T_BYTE"), (1, u "T_SHORT"), (1, u "T_INT"), (1, u "T_LONG"), (1, u "SOFT_MAX_ARRAY_LENGTH")] 83

def k13m0 : Method := { name := "<init>", desc := "()V", sig := { parameters := [], returnType := none }, accessFlags := 2, code := none }
/-- jdk/internal/util/ArraysSupport -/
def k13 : Class := { plain "jdk/internal/util/ArraysSupport" (some 0) with
  accessFlags := 33
  interfaces := #[]
  cf := some (fileOf pool13 21 #[] #[{ accessFlags := 2, nameIndex := 9, descriptorIndex := 19, attributes := #[] }] 33 16 #[] #[{ accessFlags := 24, nameIndex := 28, descriptorIndex := 29, attributes := #[] }, { accessFlags := 26, nameIndex := 38, descriptorIndex := 39, attributes := #[] }, { accessFlags := 25, nameIndex := 121, descriptorIndex := 25, attributes := #[] }, { accessFlags := 25, nameIndex := 131, descriptorIndex := 25, attributes := #[] }, { accessFlags := 25, nameIndex := 137, descriptorIndex := 25, attributes := #[] }, { accessFlags := 25, nameIndex := 143, descriptorIndex := 25, attributes := #[] }, { accessFlags := 25, nameIndex := 53, descriptorIndex := 25, attributes := #[] }, { accessFlags := 25, nameIndex := 24, descriptorIndex := 25, attributes := #[] }, { accessFlags := 25, nameIndex := 162, descriptorIndex := 25, attributes := #[] }, { accessFlags := 25, nameIndex := 187, descriptorIndex := 25, attributes := #[] }, { accessFlags := 26, nameIndex := 48, descriptorIndex := 25, attributes := #[] }, { accessFlags := 25, nameIndex := 277, descriptorIndex := 25, attributes := #[] }, { accessFlags := 25, nameIndex := 280, descriptorIndex := 25, attributes := #[] }, { accessFlags := 25, nameIndex := 282, descriptorIndex := 25, attributes := #[] }, { accessFlags := 25, nameIndex := 284, descriptorIndex := 25, attributes := #[] }, { accessFlags := 25, nameIndex := 286, descriptorIndex := 25, attributes := #[] }, { accessFlags := 25, nameIndex := 288, descriptorIndex := 25, attributes := #[] }, { accessFlags := 25, nameIndex := 290, descriptorIndex := 25, attributes := #[] }, { accessFlags := 25, nameIndex := 292, descriptorIndex := 25, attributes := #[] }, { accessFlags := 26, nameIndex := 108, descriptorIndex := 109, attributes := #[] }, { accessFlags := 25, nameIndex := 294, descriptorIndex := 25, attributes := #[] }])
  fields := #[{ name := "U", type := (.object "jdk/internal/misc/Unsafe"), accessFlags := 24, slot := 0, constantValue := 0 }, { name := "BIG_ENDIAN", type := .boolean, accessFlags := 26, slot := 1, constantValue := 0 }, { name := "LOG2_ARRAY_BOOLEAN_INDEX_SCALE", type := .int, accessFlags := 25, slot := 2, constantValue := 0 }, { name := "LOG2_ARRAY_BYTE_INDEX_SCALE", type := .int, accessFlags := 25, slot := 3, constantValue := 0 }, { name := "LOG2_ARRAY_CHAR_INDEX_SCALE", type := .int, accessFlags := 25, slot := 4, constantValue := 0 }, { name := "LOG2_ARRAY_SHORT_INDEX_SCALE", type := .int, accessFlags := 25, slot := 5, constantValue := 0 }, { name := "LOG2_ARRAY_INT_INDEX_SCALE", type := .int, accessFlags := 25, slot := 6, constantValue := 0 }, { name := "LOG2_ARRAY_LONG_INDEX_SCALE", type := .int, accessFlags := 25, slot := 7, constantValue := 0 }, { name := "LOG2_ARRAY_FLOAT_INDEX_SCALE", type := .int, accessFlags := 25, slot := 8, constantValue := 0 }, { name := "LOG2_ARRAY_DOUBLE_INDEX_SCALE", type := .int, accessFlags := 25, slot := 9, constantValue := 0 }, { name := "LOG2_BYTE_BIT_SIZE", type := .int, accessFlags := 26, slot := 10, constantValue := 0 }, { name := "T_BOOLEAN", type := .int, accessFlags := 25, slot := 11, constantValue := 0 }, { name := "T_CHAR", type := .int, accessFlags := 25, slot := 12, constantValue := 0 }, { name := "T_FLOAT", type := .int, accessFlags := 25, slot := 13, constantValue := 0 }, { name := "T_DOUBLE", type := .int, accessFlags := 25, slot := 14, constantValue := 0 }, { name := "T_BYTE", type := .int, accessFlags := 25, slot := 15, constantValue := 0 }, { name := "T_SHORT", type := .int, accessFlags := 25, slot := 16, constantValue := 0 }, { name := "T_INT", type := .int, accessFlags := 25, slot := 17, constantValue := 0 }, { name := "T_LONG", type := .int, accessFlags := 25, slot := 18, constantValue := 0 }, { name := "JLA", type := (.object "jdk/internal/access/JavaLangAccess"), accessFlags := 26, slot := 19, constantValue := 0 }, { name := "SOFT_MAX_ARRAY_LENGTH", type := .int, accessFlags := 25, slot := 20, constantValue := 0 }]
  methods := #[k13m0]
  instanceTypes := #[]
  staticTypes := #[(.object "jdk/internal/misc/Unsafe"), .boolean, .int, .int, .int, .int, .int, .int, .int, .int, .int, .int, .int, .int, .int, .int, .int, .int, .int, (.object "jdk/internal/access/JavaLangAccess"), .int]
  resolved := Array.replicate 378 none
  statics := none }

def pool14 : Array CpInfo := pool [(1, u "java/lang/Cloneable"), (0, .class_ 1), (0, u "java/lang/Object"), (0, .class_ 3)] 3

/-- java/lang/Cloneable -/
def k14 : Class := { plain "java/lang/Cloneable" (some 0) with
  accessFlags := 1537
  interfaces := #[]
  cf := some (fileOf pool14 2 #[] #[] 1537 4 #[] #[])
  fields := #[]
  methods := #[]
  instanceTypes := #[]
  staticTypes := #[]
  resolved := Array.replicate 8 none
  statics := none }

/-- the primitive byte -/
def k15 : Class := { plain "byte" none with kind := .primitive 'B', accessFlags := 0x411 }
/-- [B -/
def k16 : Class := { plain "[B" (some 0) with kind := .array 15 .byte, interfaces := #[14, 2], accessFlags := 1041 }

/-- the primitive char -/
def k17 : Class := { plain "char" none with kind := .primitive 'C', accessFlags := 0x411 }
/-- [C -/
def k18 : Class := { plain "[C" (some 0) with kind := .array 17 .char, interfaces := #[14, 2], accessFlags := 1041 }

/-- the primitive int -/
def k19 : Class := { plain "int" none with kind := .primitive 'I', accessFlags := 0x411 }
/-- [I -/
def k20 : Class := { plain "[I" (some 0) with kind := .array 19 .int, interfaces := #[14, 2], accessFlags := 1041 }

def heap : Heap := #[{ cls := 7, slots := #[.long 0, .int 1, .null, .int 0, .null, .int 0, .int 0], vm := .statics 7 },
  { cls := 12, slots := #[.null, .null, .null], vm := .statics 12 }]
def classes : Array Class := #[k0, k1, k2, k3, k4, k5, k6, k7, k8, k9, k10, k11, k12, k13, k14, k15, k16, k17, k18, k19, k20]
def interned : List (Array UInt16 × Addr) := []
def slotsUsed : Nat := 10
def theMethod : MethodId := ⟨1, 1⟩
def args0 : Array Value := #[.int 97, .int 5, .long 2, .long 7, .int 1]
def aboutOver (below : List Frame) : State where
  vm := { classes := classes, interned := interned.toArray }
  heap := heap
  slotsUsed := slotsUsed
  threads := #[{ frames := .invoking theMethod args0 :: below }]
def below0 : List Frame := [.native { method := ⟨0, 0⟩, args := #[] }]
def about1 : State := aboutOver below0
def p0 : Program := .bare "" "" ""
def e0 : Env := launch0.env 0 0 0
theorem w_frames : about1.frames = Frame.invoking theMethod args0 :: below0 := rfl
set_option maxRecDepth 65536 in
theorem w_args : argsFit about1.vm theMethod args0 = true := by decide +kernel
set_option maxRecDepth 65536 in
theorem w_heap : heapFits about1 = true := by decide +kernel
set_option maxRecDepth 65536 in
theorem w_runnable : about1.curStatus? = some .runnable := by decide +kernel
set_option maxRecDepth 65536 in
theorem w_alone : about1.alone = true := by decide +kernel
set_option maxRecDepth 65536 in
theorem w_named : about1.methodNamed? x = some theMethod := by decide +kernel
set_option maxRecDepth 65536 in
theorem w_hears : about1.hears theMethod below0 = true := by decide +kernel
set_option maxRecDepth 65536 in
theorem w_ripe : about1.ripe theMethod args0 below0 = true := by decide +kernel
theorem w_running : about1.status = .running := rfl
set_option maxRecDepth 65536 in
theorem w_room : about1.hasRoom e0.platform room_1 = true :=
  launch0.hasRoom_least _ room_1 (by decide +kernel) (by decide +kernel) (by decide +kernel) (by decide +kernel) (by decide +kernel) (by decide +kernel)
theorem allAtoms_all (ts : List Jvm.Cond) (a : Array Jvm.Value) (st : Jvm.State) : (allAtoms ts).before a st = ts.all (fun c => c.before a st) := by
  induction ts with
  | nil => rfl
  | cons c t ih =>
    show (Jvm.Cond.and c (allAtoms t)).before a st = _
    rw [Jvm.Cond.before_and, ih, List.all_cons]
def words1 : List Jvm.Cond := Jvm.Cond.code x code maxLocals ret :: tables_1
/-- a 'code' word, met by the world's own term for the bytes: nothing is compared byte by byte -/
theorem code_word {y : MethodName} {bytes : ByteArray} {mx : Nat} {rt : Option FieldType} {a : Array Value} {s : State} {m : MethodId} {meth : Method} {c : Code} (h1 : s.methodNamed? y = some m) (h2 : s.vm.method? m = some meth) (h3 : meth.code = some c) (h4 : c.code = bytes)
    (h5 : (c.maxLocals == mx && c.exceptionTable.isEmpty && decide (c.maxStack ≤ mostOperands) && decide (meth.sig.returnType = rt) && !meth.locks && decide (parseMethodDescriptor y.desc = some meth.sig)) = true) : (Jvm.Cond.code y bytes mx rt).before a s = true := by
  simp only [Bool.and_eq_true, beq_iff_eq, Bool.not_eq_true', decide_eq_true_eq] at h5
  obtain ⟨⟨⟨⟨⟨g1, g2⟩, g3⟩, g4⟩, g5⟩, g6⟩ := h5
  simp [Cond.before, Cond.holds, Cond.value, h1, h2, h3, h4, g1, g2, g3, g4, g5, g6]
def isCode : Jvm.Cond → Bool
  | .code _ _ _ _ => true
  | _ => false
theorem all_split {L : List Jvm.Cond} {P : Jvm.Cond → Bool} (h1 : L.all (fun c => isCode c || P c) = true) (h2 : ∀ c ∈ L.filter isCode, P c = true) : L.all P = true := by
  refine List.all_eq_true.mpr fun c hc => ?_
  have h := List.all_eq_true.mp h1 c hc
  rcases Bool.eq_false_or_eq_true (isCode c) with hi | hi
  · exact h2 c (List.mem_filter.mpr ⟨hc, hi⟩)
  · simpa [hi] using h
set_option maxRecDepth 65536 in
theorem w_c0 : (Jvm.Cond.code x code maxLocals ret).before args0 about1 = true := code_word (m := ⟨1, 1⟩) (meth := k1m1) (c := k1c1) (by decide +kernel) rfl rfl rfl (by decide +kernel)
set_option maxRecDepth 65536 in
theorem w_c1 : (Jvm.Cond.code ({ cls := "java/lang/String", name := "valueOf", desc := "(C)Ljava/lang/String;" } : Jvm.MethodName) jdk_42_method_139_code (1 : Nat) (Option.some (Jvm.ClassFile.FieldType.object "java/lang/String"))).before args0 about1 = true := code_word (m := ⟨7, 3⟩) (meth := k7m3) (c := k7c3) (by decide +kernel) rfl rfl rfl (by decide +kernel)
set_option maxRecDepth 65536 in
theorem w_c2 : (Jvm.Cond.code ({ cls := "java/lang/StringLatin1", name := "canEncode", desc := "(C)Z" } : Jvm.MethodName) jdk_43_method_3_code (1 : Nat) (Option.some Jvm.ClassFile.FieldType.boolean)).before args0 about1 = true := code_word (m := ⟨8, 1⟩) (meth := k8m1) (c := k8c1) (by decide +kernel) rfl rfl rfl (by decide +kernel)
set_option maxRecDepth 65536 in
theorem w_c3 : (Jvm.Cond.code ({ cls := "java/lang/StringLatin1", name := "toBytes", desc := "(C)[B" } : Jvm.MethodName) jdk_43_method_46_code (1 : Nat) (Option.some (Jvm.ClassFile.FieldType.array Jvm.ClassFile.FieldType.byte))).before args0 about1 = true := code_word (m := ⟨8, 3⟩) (meth := k8m3) (c := k8c3) (by decide +kernel) rfl rfl rfl (by decide +kernel)
set_option maxRecDepth 65536 in
theorem w_c4 : (Jvm.Cond.code ({ cls := "java/lang/String", name := "<init>", desc := "([BB)V" } : Jvm.MethodName) jdk_42_method_151_code (3 : Nat) (Option.none : Option Jvm.ClassFile.FieldType)).before args0 about1 = true := code_word (m := ⟨7, 5⟩) (meth := k7m5) (c := k7c5) (by decide +kernel) rfl rfl rfl (by decide +kernel)
set_option maxRecDepth 65536 in
theorem w_c5 : (Jvm.Cond.code ({ cls := "java/lang/Object", name := "<init>", desc := "()V" } : Jvm.MethodName) object_method_1_code (1 : Nat) (Option.none : Option Jvm.ClassFile.FieldType)).before args0 about1 = true := code_word (m := ⟨0, 0⟩) (meth := k0m0) (c := k0c0) (by decide +kernel) rfl rfl rfl (by decide +kernel)
set_option maxRecDepth 65536 in
theorem w_c6 : (Jvm.Cond.code ({ cls := "java/lang/String", name := "<init>", desc := "([C)V" } : Jvm.MethodName) jdk_42_method_3_code (2 : Nat) (Option.none : Option Jvm.ClassFile.FieldType)).before args0 about1 = true := code_word (m := ⟨7, 1⟩) (meth := k7m1) (c := k7c1) (by decide +kernel) rfl rfl rfl (by decide +kernel)
set_option maxRecDepth 65536 in
theorem w_c7 : (Jvm.Cond.code ({ cls := "java/lang/String", name := "<init>", desc := "([CIILjava/lang/Void;)V" } : Jvm.MethodName) jdk_42_method_149_code (6 : Nat) (Option.none : Option Jvm.ClassFile.FieldType)).before args0 about1 = true := code_word (m := ⟨7, 4⟩) (meth := k7m4) (c := k7c4) (by decide +kernel) rfl rfl rfl (by decide +kernel)
set_option maxRecDepth 65536 in
theorem w_c8 : (Jvm.Cond.code ({ cls := "java/lang/StringUTF16", name := "compress", desc := "([CII)[B" } : Jvm.MethodName) jdk_52_method_16_code (6 : Nat) (Option.some (Jvm.ClassFile.FieldType.array Jvm.ClassFile.FieldType.byte))).before args0 about1 = true := code_word (m := ⟨9, 2⟩) (meth := k9m2) (c := k9c2) (by decide +kernel) rfl rfl rfl (by decide +kernel)
set_option maxRecDepth 65536 in
theorem w_c9 : (Jvm.Cond.code ({ cls := "java/lang/StringUTF16", name := "compress", desc := "([CI[BII)I" } : Jvm.MethodName) jdk_52_method_21_code (7 : Nat) (Option.some Jvm.ClassFile.FieldType.int)).before args0 about1 = true := code_word (m := ⟨9, 3⟩) (meth := k9m3) (c := k9c3) (by decide +kernel) rfl rfl rfl (by decide +kernel)
set_option maxRecDepth 65536 in
theorem w_c10 : (Jvm.Cond.code ({ cls := "java/lang/StringUTF16", name := "coderFromArrayLen", desc := "([BI)B" } : Jvm.MethodName) jdk_52_method_15_code (2 : Nat) (Option.some Jvm.ClassFile.FieldType.byte)).before args0 about1 = true := code_word (m := ⟨9, 1⟩) (meth := k9m1) (c := k9c1) (by decide +kernel) rfl rfl rfl (by decide +kernel)
set_option maxRecDepth 65536 in
theorem w_c11 : (Jvm.Cond.code ({ cls := "com/example/people_in_groups/peopleingroups/model/ExtensionPair", name := "<init>", desc := "(Ljava/lang/String;Ljava/lang/String;J)V" } : Jvm.MethodName) prog_7_method_1_code (5 : Nat) (Option.none : Option Jvm.ClassFile.FieldType)).before args0 about1 = true := code_word (m := ⟨10, 0⟩) (meth := k10m0) (c := k10c0) (by decide +kernel) rfl rfl rfl (by decide +kernel)
set_option maxRecDepth 65536 in
theorem w_c12 : (Jvm.Cond.code ({ cls := "java/util/Objects", name := "requireNonNull", desc := "(Ljava/lang/Object;Ljava/lang/String;)Ljava/lang/Object;" } : Jvm.MethodName) jdk_31_method_11_code (2 : Nat) (Option.some (Jvm.ClassFile.FieldType.object "java/lang/Object"))).before args0 about1 = true := code_word (m := ⟨11, 1⟩) (meth := k11m1) (c := k11c1) (by decide +kernel) rfl rfl rfl (by decide +kernel)
set_option maxRecDepth 65536 in
theorem w_c13 : (Jvm.Cond.code ({ cls := "com/example/people_in_groups/peopleingroups/model/ExtensionPair", name := "equals", desc := "(Ljava/lang/Object;)Z" } : Jvm.MethodName) prog_7_method_5_code (3 : Nat) (Option.some Jvm.ClassFile.FieldType.boolean)).before args0 about1 = true := code_word (m := ⟨10, 1⟩) (meth := k10m1) (c := k10c1) (by decide +kernel) rfl rfl rfl (by decide +kernel)
set_option maxRecDepth 65536 in
theorem w_c14 : (Jvm.Cond.code ({ cls := "java/lang/String", name := "equals", desc := "(Ljava/lang/Object;)Z" } : Jvm.MethodName) jdk_42_method_66_code (3 : Nat) (Option.some Jvm.ClassFile.FieldType.boolean)).before args0 about1 = true := code_word (m := ⟨7, 2⟩) (meth := k7m2) (c := k7c2) (by decide +kernel) rfl rfl rfl (by decide +kernel)
set_option maxRecDepth 65536 in
theorem w_c15 : (Jvm.Cond.code ({ cls := "java/lang/StringLatin1", name := "equals", desc := "([B[B)Z" } : Jvm.MethodName) jdk_43_method_13_code (3 : Nat) (Option.some Jvm.ClassFile.FieldType.boolean)).before args0 about1 = true := code_word (m := ⟨8, 2⟩) (meth := k8m2) (c := k8c2) (by decide +kernel) rfl rfl rfl (by decide +kernel)
def codes1 : List Jvm.Cond := [Jvm.Cond.code x code maxLocals ret, Jvm.Cond.code ({ cls := "java/lang/String", name := "valueOf", desc := "(C)Ljava/lang/String;" } : Jvm.MethodName) jdk_42_method_139_code (1 : Nat) (Option.some (Jvm.ClassFile.FieldType.object "java/lang/String")), Jvm.Cond.code ({ cls := "java/lang/StringLatin1", name := "canEncode", desc := "(C)Z" } : Jvm.MethodName) jdk_43_method_3_code (1 : Nat) (Option.some Jvm.ClassFile.FieldType.boolean), Jvm.Cond.code ({ cls := "java/lang/StringLatin1", name := "toBytes", desc := "(C)[B" } : Jvm.MethodName) jdk_43_method_46_code (1 : Nat) (Option.some (Jvm.ClassFile.FieldType.array Jvm.ClassFile.FieldType.byte)), Jvm.Cond.code ({ cls := "java/lang/String", name := "<init>", desc := "([BB)V" } : Jvm.MethodName) jdk_42_method_151_code (3 : Nat) (Option.none : Option Jvm.ClassFile.FieldType), Jvm.Cond.code ({ cls := "java/lang/Object", name := "<init>", desc := "()V" } : Jvm.MethodName) object_method_1_code (1 : Nat) (Option.none : Option Jvm.ClassFile.FieldType), Jvm.Cond.code ({ cls := "java/lang/String", name := "<init>", desc := "([C)V" } : Jvm.MethodName) jdk_42_method_3_code (2 : Nat) (Option.none : Option Jvm.ClassFile.FieldType), Jvm.Cond.code ({ cls := "java/lang/String", name := "<init>", desc := "([CIILjava/lang/Void;)V" } : Jvm.MethodName) jdk_42_method_149_code (6 : Nat) (Option.none : Option Jvm.ClassFile.FieldType), Jvm.Cond.code ({ cls := "java/lang/StringUTF16", name := "compress", desc := "([CII)[B" } : Jvm.MethodName) jdk_52_method_16_code (6 : Nat) (Option.some (Jvm.ClassFile.FieldType.array Jvm.ClassFile.FieldType.byte)), Jvm.Cond.code ({ cls := "java/lang/StringUTF16", name := "compress", desc := "([CI[BII)I" } : Jvm.MethodName) jdk_52_method_21_code (7 : Nat) (Option.some Jvm.ClassFile.FieldType.int), Jvm.Cond.code ({ cls := "java/lang/StringUTF16", name := "coderFromArrayLen", desc := "([BI)B" } : Jvm.MethodName) jdk_52_method_15_code (2 : Nat) (Option.some Jvm.ClassFile.FieldType.byte), Jvm.Cond.code ({ cls := "com/example/people_in_groups/peopleingroups/model/ExtensionPair", name := "<init>", desc := "(Ljava/lang/String;Ljava/lang/String;J)V" } : Jvm.MethodName) prog_7_method_1_code (5 : Nat) (Option.none : Option Jvm.ClassFile.FieldType), Jvm.Cond.code ({ cls := "java/util/Objects", name := "requireNonNull", desc := "(Ljava/lang/Object;Ljava/lang/String;)Ljava/lang/Object;" } : Jvm.MethodName) jdk_31_method_11_code (2 : Nat) (Option.some (Jvm.ClassFile.FieldType.object "java/lang/Object")), Jvm.Cond.code ({ cls := "com/example/people_in_groups/peopleingroups/model/ExtensionPair", name := "equals", desc := "(Ljava/lang/Object;)Z" } : Jvm.MethodName) prog_7_method_5_code (3 : Nat) (Option.some Jvm.ClassFile.FieldType.boolean), Jvm.Cond.code ({ cls := "java/lang/String", name := "equals", desc := "(Ljava/lang/Object;)Z" } : Jvm.MethodName) jdk_42_method_66_code (3 : Nat) (Option.some Jvm.ClassFile.FieldType.boolean), Jvm.Cond.code ({ cls := "java/lang/StringLatin1", name := "equals", desc := "([B[B)Z" } : Jvm.MethodName) jdk_43_method_13_code (3 : Nat) (Option.some Jvm.ClassFile.FieldType.boolean)]
set_option maxRecDepth 65536 in
theorem codes_eq : words1.filter isCode = codes1 := rfl
theorem w_codes : ∀ c ∈ words1.filter isCode, c.before args0 about1 = true := by
  rw [codes_eq]
  intro c hc
  simp only [codes1, List.mem_cons, List.not_mem_nil, or_false] at hc
  rcases hc with rfl | rfl | rfl | rfl | rfl | rfl | rfl | rfl | rfl | rfl | rfl | rfl | rfl | rfl | rfl | rfl
  · exact w_c0
  · exact w_c1
  · exact w_c2
  · exact w_c3
  · exact w_c4
  · exact w_c5
  · exact w_c6
  · exact w_c7
  · exact w_c8
  · exact w_c9
  · exact w_c10
  · exact w_c11
  · exact w_c12
  · exact w_c13
  · exact w_c14
  · exact w_c15
set_option maxRecDepth 65536 in
theorem w_t1 : (words1.take 24).all (fun c => isCode c || c.before args0 about1) = true := by decide +kernel
set_option maxRecDepth 65536 in
theorem w_t2 : ((words1.drop 24).take 24).all (fun c => isCode c || c.before args0 about1) = true := by decide +kernel
set_option maxRecDepth 65536 in
theorem w_t3 : (((words1.drop 24).drop 24).take 24).all (fun c => isCode c || c.before args0 about1) = true := by decide +kernel
set_option maxRecDepth 65536 in
theorem w_t4 : (((words1.drop 24).drop 24).drop 24).all (fun c => isCode c || c.before args0 about1) = true := by decide +kernel
theorem w_tables : (allAtoms (Jvm.Cond.code x code maxLocals ret :: tables_1)).before args0 about1 = true := by
  rw [allAtoms_all]
  show words1.all (fun c => c.before args0 about1) = true
  refine all_split ?_ w_codes
  rw [← List.take_append_drop 24 words1, List.all_append, w_t1, ← List.take_append_drop 24 (words1.drop 24), List.all_append, w_t2, ← List.take_append_drop 24 ((words1.drop 24).drop 24), List.all_append, w_t3, w_t4]
  rfl
set_option maxRecDepth 65536 in
theorem w_rest : rest_1_c.before args0 about1 = true := by decide +kernel
set_option maxRecDepth 65536 in
theorem w_case : (Jvm.Cond.and given_1 narrow_1).before args0 about1 = true := by decide +kernel
theorem w_applies : (headSpec (Jvm.Cond.code x code maxLocals ret :: tables_1) room_1).applies x e0.platform about1 = true :=
  (Spec.applies_iff w_frames).mpr ⟨w_running, w_runnable, w_alone, w_named, w_hears, w_ripe, w_room, w_tables⟩
theorem atStart : AtStart classFile x code maxLocals ret World_1 tables_1 room_1 Calls_1 rest_1 Pre_1 launch0 p0 e0 about1 theMethod args0 below0 :=
  ⟨lists_1, trivial, launch0.admits_env _ _ _, launch0.least_env, fairChoices_fair.cas, fairChoices_fair.clock, w_frames, w_args, w_heap, w_applies, trivial, w_rest, w_case⟩
end start1
theorem witness_1 : WitnessClaimed_1 := ⟨start1.p0, start1.e0, start1.about1, start1.theMethod, start1.args0, start1.below0, start1.atStart⟩
end Jvm.Pilot.@@N@@
