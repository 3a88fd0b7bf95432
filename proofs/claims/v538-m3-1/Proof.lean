import JvmDerived
import JvmDerived.Pilot.@@N@@Statement
import JvmDerived.Pilot.@@N@@Code
set_option linter.unusedVariables false
set_option linter.unusedSimpArgs false

namespace Jvm.Pilot.@@N@@
open Jvm Jvm.ClassFile Sem Op Lib Jvm.Free Jvm.Stand Jvm.LawKit Jvm.RoadKit Bundle Jvm.Pilot.@@N@@.Jvm.D
/-! own text: the run of a body in continuation form -/
section OwnKit
variable {p : Program} {l : Launch} {e : Env} {R : Room} {s : State} {m : MethodId} {args : Array Value} {below : List Frame} {meth : Method} {c : Code} {T : State} {locs : List Loc} {cells slots : Nat} {Z : State} {a0 : Array Value} {h : Heap} {Qb : Option Value → Heap → List Loc → Prop} {kc ks : Nat}
/-- from the state T with the frame g on top the run comes to the end of the body, and there Qb holds -/
def Ends (p : Program) (e : Env) (below : List Frame) (s : State) (Qb : Option Value → Heap → List Loc → Prop) (kc ks : Nat) (T : State) (g : JFrame) : Prop :=
  ∃ s₂ o, Steps p.tables e below (T.setTop g) s₂ ∧ s₂.status = .running ∧ Ended s₂ below o ∧ ∃ v L, o = .returned v ∧ Qb v s₂.heap L ∧ FrameEnd s o s₂ L kc ks
theorem Ends.go {T T' : State} {g g' : JFrame} (h : ∀ t, Steps p.tables e below (T'.setTop g') t → Steps p.tables e below (T.setTop g) t) (k : Ends p e below s Qb kc ks T' g') : Ends p e below s Qb kc ks T g := by
  obtain ⟨s2, o, st, r⟩ := k
  exact ⟨s2, o, h _ st, r⟩
theorem Ends.cast {T : State} {g g' : JFrame} (h : g = g') (k : Ends p e below s Qb kc ks T g') : Ends p e below s Qb kc ks T g := h ▸ k
abbrev Con (l : Launch) (y : MethodName) (code : ByteArray) (ml : Nat) (rt : Option FieldType) (ws : List Jvm.Cond) (rm : Room) (as' : Array Value) (Z : State) (h0 : Heap) (Q : Option Value → Heap → List Loc → Prop) : Prop :=
  MetFree l y (head1 (Jvm.Cond.code y code ml rt :: ws) rm) (fun a U => a = as' ∧ Z.Warmed39 U.vm ∧ U.heap = h0) (fun _ _ _ _ _ => True) (fun _ U o U' => ∃ v L, o = .returned v ∧ Q v U'.heap L ∧ FrameEnd U o U' L rm.cells rm.slots)
theorem Con.of {y : MethodName} {code : ByteArray} {ml : Nat} {rt : Option FieldType} {ws : List Jvm.Cond} {rm : Room} {as' : Array Value} {h0 : Heap} {Q : Option Value → Heap → List Loc → Prop} (hp : plainFor y = true)
    (k : ∀ (p : Program) (e : Env) (s : State) (m : MethodId) (below : List Frame) (meth : Method) (c : Code) (s₁ : State), p.tables.exec = Jvm.exec → Z.Warmed39 s.vm → c.code = code → c.maxLocals = ml → s.vm.findClass y.cls = some m.cls → meth.name = y.name → meth.sig.returnType = rt → meth.locks = false →
      Stand p l e rm s m as' below meth c s₁ [] 0 0 → s₁.heap = h0 → Ends p e below s Q rm.cells rm.slots s₁ (entryFrame m as' ml)) : Con l y code ml rt ws rm as' Z h0 Q := by
  refine MetFree.of_bodySF hp hisR ?_
  intro p e s m args below meth c s₁ Bd hml0 hP hK
  obtain ⟨rfl, hZ, hh⟩ := hP
  exact k p e s m below meth c s₁ Bd.exec hZ Bd.bytes hml0 (findClass_of_methodNamed Bd.named) (name_of_methodNamed Bd.named Bd.method).1 Bd.returns Bd.notSynchronized (Stand.of_body Bd) (by rw [← hh, Bd.state]; rfl)
theorem Ends.ret (X : Stand p l e R s m args below meth c T locs cells slots) (hx : p.tables.exec = Jvm.exec) (hlk : meth.locks = false) {pc : Nat} {Ls : Array Slot} {w : Value} {t : FieldType} {i : Instr} {rest : List Value} (hret : meth.sig.returnType = some t) (hn : narrow t w = w)
    (hi : (i = .ireturn ∧ (t = .int ∨ t = .boolean ∨ t = .byte ∨ t = .char ∨ t = .short) ∧ ∃ z, w = .int z) ∨ (i = .lreturn ∧ t = .long ∧ ∃ z, w = .long z) ∨ (i = .dreturn ∧ t = .double ∧ ∃ z, w = .double z) ∨ (i = .freturn ∧ t = .float ∧ ∃ z, w = .float z) ∨ (i = .areturn ∧ t.isReference = true ∧ w.isRef = true))
    (hd : decode c.code pc = .ok (i, 1)) (hc : cells ≤ kc) (hs : slots ≤ ks) (hQ : Qb (some w) T.heap locs) : Ends p e below s Qb kc ks T (mkF m pc Ls (w :: rest)) := by
  obtain ⟨fs, hr, hrun, hended, hW, hsame⟩ := X.leave (v := some w) (fun h => by rw [hret] at h; cases h) hlk
  exact ⟨_, _, retOut X hx hret hn hi hd hr, hrun, hended, _, _, rfl, hQ, ⟨_, rfl⟩, hW, hsame.mono hc hs⟩
theorem Ends.retI (X : Stand p l e R s m args below meth c T locs cells slots) (hx : p.tables.exec = Jvm.exec) (hlk : meth.locks = false) {pc : Nat} {Ls : Array Slot} {z : Int32} {rest : List Value} (hret : meth.sig.returnType = some .int) (hd : decode c.code pc = .ok (.ireturn, 1)) (hc : cells ≤ kc) (hs : slots ≤ ks) (hQ : Qb (some (.int z)) T.heap locs) : Ends p e below s Qb kc ks T (mkF m pc Ls (.int z :: rest)) :=
  Ends.ret X hx hlk hret rfl (Or.inl ⟨rfl, Or.inl rfl, _, rfl⟩) hd hc hs hQ
theorem Ends.retJ (X : Stand p l e R s m args below meth c T locs cells slots) (hx : p.tables.exec = Jvm.exec) (hlk : meth.locks = false) {pc : Nat} {Ls : Array Slot} {z : Int64} {rest : List Value} (hret : meth.sig.returnType = some .long) (hd : decode c.code pc = .ok (.lreturn, 1)) (hc : cells ≤ kc) (hs : slots ≤ ks) (hQ : Qb (some (.long z)) T.heap locs) : Ends p e below s Qb kc ks T (mkF m pc Ls (.long z :: rest)) :=
  Ends.ret X hx hlk hret rfl (Or.inr (Or.inl ⟨rfl, rfl, _, rfl⟩)) hd hc hs hQ
theorem Ends.retS (X : Stand p l e R s m args below meth c T locs cells slots) (hx : p.tables.exec = Jvm.exec) (hlk : meth.locks = false) {pc : Nat} {Ls : Array Slot} {z : Int32} {t : FieldType} {rest : List Value} (hret : meth.sig.returnType = some t) (ht : t = .boolean ∨ t = .byte ∨ t = .char ∨ t = .short) (hn : narrow t (.int z) = .int z) (hd : decode c.code pc = .ok (.ireturn, 1)) (hc : cells ≤ kc) (hs : slots ≤ ks) (hQ : Qb (some (.int z)) T.heap locs) : Ends p e below s Qb kc ks T (mkF m pc Ls (.int z :: rest)) :=
  Ends.ret X hx hlk hret hn (Or.inl ⟨rfl, Or.inr ht, _, rfl⟩) hd hc hs hQ
theorem Ends.retA (X : Stand p l e R s m args below meth c T locs cells slots) (hx : p.tables.exec = Jvm.exec) (hlk : meth.locks = false) {pc : Nat} {Ls : Array Slot} {w : Value} {t : FieldType} {rest : List Value} (hret : meth.sig.returnType = some t) (ht : t.isReference = true) (hw : w.isRef = true) (hn : narrow t w = w) (hd : decode c.code pc = .ok (.areturn, 1)) (hc : cells ≤ kc) (hs : slots ≤ ks) (hQ : Qb (some w) T.heap locs) : Ends p e below s Qb kc ks T (mkF m pc Ls (w :: rest)) :=
  Ends.ret X hx hlk hret hn (Or.inr (Or.inr (Or.inr (Or.inr ⟨rfl, ht, hw⟩)))) hd hc hs hQ
theorem Ends.retV (X : Stand p l e R s m args below meth c T locs cells slots) (hx : p.tables.exec = Jvm.exec) (hlk : meth.locks = false) {pc : Nat} {Ls : Array Slot} (hret : meth.sig.returnType = none) (hd : decode c.code pc = .ok (.return_, 1)) (hc : cells ≤ kc) (hs : slots ≤ ks) (hQ : Qb none T.heap locs) : Ends p e below s Qb kc ks T (mkF m pc Ls []) := by
  obtain ⟨fs, hr, hrun, hended, hW, hsame⟩ := X.leave (v := none) (fun _ => rfl) hlk
  exact ⟨_, _, X.returnOut hx hret hd hr, hrun, hended, _, _, rfl, hQ, ⟨_, rfl⟩, hW, hsame.mono hc hs⟩
/-- a static call by its contract -/
theorem Ends.callS (X : Stand p l e R s m args below meth c T locs cells slots) (hx : p.tables.exec = Jvm.exec) (hZ : Z.Warmed39 s.vm) {own : String} (hown : s.vm.findClass own = some m.cls) {index : Nat} {y : MethodName} {bytes : ByteArray} {maxL : Nat} {rt : Option FieldType} {rm : Room} {Q : Option Value → Heap → List Loc → Prop}
    (w1 : (Jvm.Cond.methodLink own index y).before a0 Z = true) (w2 : (Jvm.Cond.static y).before a0 Z = true) (w3 : (Jvm.Cond.initialized y.cls).before a0 Z = true) (w4 : (Jvm.Cond.code y bytes maxL rt).before a0 Z = true) (hy : y.cls ≠ "java/lang/invoke/MethodHandle" ∧ y.cls ≠ "java/lang/invoke/VarHandle")
    {argsL rest : List Value} (eT : T.heap = h) (M : Con l y bytes maxL rt [] rm argsL.toArray Z h Q) {W pc : Nat} (hf : rm.frames + 1 ≤ R.frames) (hl : W + (maxL + 11) + rm.locals ≤ R.locals) {Ls : Array Slot} (hsz : Ls.size = c.maxLocals)
    (hlen : ∀ sig, parseMethodDescriptor y.desc = some sig → argsL.length = sig.parameters.length) (hW : (rest.map fun v => v.category).sum ≤ W) (hd : decode c.code pc = .ok (.invokestatic index, 3)) (hc : cells + rm.cells ≤ R.cells) (hs : slots + rm.slots ≤ R.slots) {st : List Value} (hst : st = argsL.reverse ++ rest)
    (k : ∀ T' v L, Stand p l e R s m args below meth c T' (locs ++ L) (cells + rm.cells) (slots + rm.slots) → Q v T'.heap L → Ends p e below s Qb kc ks T' (mkF m (pc + 3) Ls (v.toList ++ rest))) :
    Ends p e below s Qb kc ks T (mkF m pc Ls st) := by
  obtain ⟨v, vm1, ⟨T1, L1, k1, n1⟩, -, X1, ⟨Lc, hQ, q1, q2, q3⟩, st1⟩ := Jvm.LawKit.callS X hx hown (mvT hZ w1) (mvT hZ w2) (mvT hZ w3) (mvT hZ w4) hy (backOf (W := W) M hZ w4 w3 hf hl) (g := mkF m pc Ls st) rfl hsz (argsL := argsL) (rest := rest) hlen hst (by show 2 * 0 + _ ≤ _; omega) hd (fun _ _ => ⟨rfl, eT, hc, hs⟩)
  dsimp only [Pt.U, Pt.locs, Pt.cells, Pt.slots] at X1 q1 q2 q3 st1 hQ
  subst q1 q2 q3
  exact Ends.go st1 (k T1 v Lc X1 hQ)
/-- a constructor by its contract -/
theorem Ends.callI (X : Stand p l e R s m args below meth c T locs cells slots) (hx : p.tables.exec = Jvm.exec) (hZ : Z.Warmed39 s.vm) {own : String} (hown : s.vm.findClass own = some m.cls) {index : Nat} {y : MethodName} {bytes : ByteArray} {maxL : Nat} {rm : Room} {Q : Option Value → Heap → List Loc → Prop}
    (w1 : (Jvm.Cond.methodLink own index y).before a0 Z = true) (w2 : (Jvm.Cond.instanceMethod y).before a0 Z = true) (w3 : (Jvm.Cond.initialized y.cls).before a0 Z = true) (w4 : (Jvm.Cond.code y bytes maxL none).before a0 Z = true) (hyn : y.name = "<init>") (hy : y.cls ≠ "java/lang/invoke/MethodHandle" ∧ y.cls ≠ "java/lang/invoke/VarHandle")
    {b : Addr} {argsL rest : List Value} (eT : T.heap = h) (M : Con l y bytes maxL none [] rm (.ref b :: argsL).toArray Z h Q) {W pc : Nat} (hf : rm.frames + 1 ≤ R.frames) (hl : W + (maxL + 11) + rm.locals ≤ R.locals) {Ls : Array Slot} (hsz : Ls.size = c.maxLocals)
    (hlen : ∀ sig, parseMethodDescriptor y.desc = some sig → argsL.length = sig.parameters.length) (hW : (rest.map fun v => v.category).sum ≤ W) (hd : decode c.code pc = .ok (.invokespecial index, 3)) (hc : cells + rm.cells ≤ R.cells) (hs : slots + rm.slots ≤ R.slots) {st : List Value} (hst : st = argsL.reverse ++ .ref b :: rest)
    (k : ∀ T' v L, Stand p l e R s m args below meth c T' (locs ++ L) (cells + rm.cells) (slots + rm.slots) → Q v T'.heap L → Ends p e below s Qb kc ks T' (mkF m (pc + 3) Ls (v.toList ++ rest))) :
    Ends p e below s Qb kc ks T (mkF m pc Ls st) := by
  obtain ⟨v, vm1, ⟨T1, L1, k1, n1⟩, -, X1, ⟨Lc, hQ, q1, q2, q3⟩, st1⟩ := X.specialBack hx hyn hown (mvT hZ w1) (mvT hZ w2) (mvT hZ w4) hy (backOf (W := W) M hZ w4 w3 hf hl) (g := mkF m pc Ls st) rfl hsz (Steps.refl _) (a := b) (argsL := argsL) (rest := rest) hlen hst (by show 2 * 0 + _ ≤ _; omega) hd (fun _ _ => ⟨rfl, eT, hc, hs⟩)
  dsimp only [Pt.U, Pt.locs, Pt.cells, Pt.slots] at X1 q1 q2 q3 st1 hQ
  subst q1 q2 q3
  exact Ends.go (fun t kt => st1.trans kt) (k T1 v Lc X1 hQ)
/-- an instance method by its contract -/
theorem Ends.callV (X : Stand p l e R s m args below meth c T locs cells slots) (hx : p.tables.exec = Jvm.exec) (hZ : Z.Warmed39 s.vm) {own C : String} (hown : s.vm.findClass own = some m.cls) {index : Nat} {y : MethodName} {bytes : ByteArray} {maxL : Nat} {rt : Option FieldType} {rm : Room} {Q : Option Value → Heap → List Loc → Prop}
    (w1 : (Jvm.Cond.methodLink own index y).before a0 Z = true) (w2 : (Jvm.Cond.declares y).before a0 Z = true) (w5 : (Jvm.Cond.selects C y y).before a0 Z = true) (w6 : (Jvm.Cond.instanceMethod y).before a0 Z = true) (w3 : (Jvm.Cond.initialized y.cls).before a0 Z = true) (w4 : (Jvm.Cond.code y bytes maxL rt).before a0 Z = true) (hy : y.cls ≠ "java/lang/invoke/MethodHandle" ∧ y.cls ≠ "java/lang/invoke/VarHandle")
    {b : Addr} {argsL rest : List Value} (eT : T.heap = h) (E : Exa Z h b C) (M : Con l y bytes maxL rt [] rm (.ref b :: argsL).toArray Z h Q) {W pc : Nat} (hf : rm.frames + 1 ≤ R.frames) (hl : W + (maxL + 11) + rm.locals ≤ R.locals) {Ls : Array Slot} (hsz : Ls.size = c.maxLocals)
    (hlen : ∀ sig, parseMethodDescriptor y.desc = some sig → argsL.length = sig.parameters.length) (hW : (rest.map fun v => v.category).sum ≤ W) (hd : decode c.code pc = .ok (.invokevirtual index, 3)) (hc : cells + rm.cells ≤ R.cells) (hs : slots + rm.slots ≤ R.slots) {st : List Value} (hst : st = argsL.reverse ++ .ref b :: rest)
    (k : ∀ T' v L, Stand p l e R s m args below meth c T' (locs ++ L) (cells + rm.cells) (slots + rm.slots) → Q v T'.heap L → Ends p e below s Qb kc ks T' (mkF m (pc + 3) Ls (v.toList ++ rest))) :
    Ends p e below s Qb kc ks T (mkF m pc Ls st) := by
  obtain ⟨cq, kq, qa, qb, qc⟩ := isOf (T := T) hZ eT E
  obtain ⟨v, vm1, ⟨T1, L1, k1, n1⟩, -, X1, ⟨Lc, hQ, q1, q2, q3⟩, st1⟩ := X.virtualBack hx (y := y) (z := y) hown (mvT hZ w1) (mvT hZ w2) (notFace_of_selects (args := #[]) (mvT hZ w5)) (mvT hZ w5) (mvT hZ w6) hy (backOf (W := W) M hZ w4 w3 hf hl) qa qc (g := mkF m pc Ls st) rfl hsz (Steps.refl _) (argsL := argsL) (rest := rest) hlen hst (by show 2 * 0 + _ ≤ _; omega) hd (fun _ _ => ⟨rfl, eT, hc, hs⟩)
  dsimp only [Pt.U, Pt.locs, Pt.cells, Pt.slots] at X1 q1 q2 q3 st1 hQ
  subst q1 q2 q3
  exact Ends.go (fun t kt => st1.trans kt) (k T1 v Lc X1 hQ)
end OwnKit
/-! own text, printed by mksteps.py: one lemma a plain instruction -/
section OwnSteps
variable {p : Program} {l : Launch} {e : Env} {R : Room} {s : State} {m : MethodId} {args : Array Value} {below : List Frame} {meth : Method} {c : Code} {T : State} {locs : List Loc} {cells slots : Nat} {Z : State} {a0 : Array Value} {h : Heap} {Qb : Option Value → Heap → List Loc → Prop} {kc ks : Nat} {Ls l' : Array Slot} {st : List Value} {pc q k : Nat} {kf : Fin 4} {k2 : Fin 2}
theorem E.iload {v : Int32} (X : Stand p l e R s m args below meth c T locs cells slots) (hx : p.tables.exec = Jvm.exec) (hd : decode c.code pc = .ok (.iload k, 2)) (hl : Ls[k]? = some (.val (.int v))) (k' : Ends p e below s Qb kc ks T (mkF m q Ls (.int v :: st))) (hq : pc + 2 = q := by rfl) : Ends p e below s Qb kc ks T (mkF m pc Ls st) := by
  subst hq; exact Ends.go (fun t => XS.iload X.here hx rfl hd hl) k'
theorem E.iloadN {v : Int32} (X : Stand p l e R s m args below meth c T locs cells slots) (hx : p.tables.exec = Jvm.exec) (hd : decode c.code pc = .ok (.iload_n kf, 1)) (hl : Ls[kf.val]? = some (.val (.int v))) (k' : Ends p e below s Qb kc ks T (mkF m q Ls (.int v :: st))) (hq : pc + 1 = q := by rfl) : Ends p e below s Qb kc ks T (mkF m pc Ls st) := by
  subst hq; exact Ends.go (fun t => XS.iloadN X.here hx rfl hd hl) k'
theorem E.istore {v : Int32} (X : Stand p l e R s m args below meth c T locs cells slots) (hx : p.tables.exec = Jvm.exec) (hd : decode c.code pc = .ok (.istore k, 2)) (hl : storeLocals Ls k (.int v) = some l') (k' : Ends p e below s Qb kc ks T (mkF m q l' st)) (hq : pc + 2 = q := by rfl) : Ends p e below s Qb kc ks T (mkF m pc Ls (.int v :: st)) := by
  subst hq; exact Ends.go (fun t => XS.istore X.here hx rfl hd rfl hl) k'
theorem E.istoreN {v : Int32} (X : Stand p l e R s m args below meth c T locs cells slots) (hx : p.tables.exec = Jvm.exec) (hd : decode c.code pc = .ok (.istore_n kf, 1)) (hl : storeLocals Ls kf.val (.int v) = some l') (k' : Ends p e below s Qb kc ks T (mkF m q l' st)) (hq : pc + 1 = q := by rfl) : Ends p e below s Qb kc ks T (mkF m pc Ls (.int v :: st)) := by
  subst hq; exact Ends.go (fun t => XS.istoreN X.here hx rfl hd rfl hl) k'
theorem E.lload {v : Int64} (X : Stand p l e R s m args below meth c T locs cells slots) (hx : p.tables.exec = Jvm.exec) (hd : decode c.code pc = .ok (.lload k, 2)) (hl : Ls[k]? = some (.val (.long v))) (k' : Ends p e below s Qb kc ks T (mkF m q Ls (.long v :: st))) (hq : pc + 2 = q := by rfl) : Ends p e below s Qb kc ks T (mkF m pc Ls st) := by
  subst hq; exact Ends.go (fun t => XS.lload X.here hx rfl hd hl) k'
theorem E.lloadN {v : Int64} (X : Stand p l e R s m args below meth c T locs cells slots) (hx : p.tables.exec = Jvm.exec) (hd : decode c.code pc = .ok (.lload_n kf, 1)) (hl : Ls[kf.val]? = some (.val (.long v))) (k' : Ends p e below s Qb kc ks T (mkF m q Ls (.long v :: st))) (hq : pc + 1 = q := by rfl) : Ends p e below s Qb kc ks T (mkF m pc Ls st) := by
  subst hq; exact Ends.go (fun t => XS.lloadN X.here hx rfl hd hl) k'
theorem E.lstore {v : Int64} (X : Stand p l e R s m args below meth c T locs cells slots) (hx : p.tables.exec = Jvm.exec) (hd : decode c.code pc = .ok (.lstore k, 2)) (hl : storeLocals Ls k (.long v) = some l') (k' : Ends p e below s Qb kc ks T (mkF m q l' st)) (hq : pc + 2 = q := by rfl) : Ends p e below s Qb kc ks T (mkF m pc Ls (.long v :: st)) := by
  subst hq; exact Ends.go (fun t => XS.lstore X.here hx rfl hd rfl hl) k'
theorem E.lstoreN {v : Int64} (X : Stand p l e R s m args below meth c T locs cells slots) (hx : p.tables.exec = Jvm.exec) (hd : decode c.code pc = .ok (.lstore_n kf, 1)) (hl : storeLocals Ls kf.val (.long v) = some l') (k' : Ends p e below s Qb kc ks T (mkF m q l' st)) (hq : pc + 1 = q := by rfl) : Ends p e below s Qb kc ks T (mkF m pc Ls (.long v :: st)) := by
  subst hq; exact Ends.go (fun t => XS.lstoreN X.here hx rfl hd rfl hl) k'
theorem E.dload {v : UInt64} (X : Stand p l e R s m args below meth c T locs cells slots) (hx : p.tables.exec = Jvm.exec) (hd : decode c.code pc = .ok (.dload k, 2)) (hl : Ls[k]? = some (.val (.double v))) (k' : Ends p e below s Qb kc ks T (mkF m q Ls (.double v :: st))) (hq : pc + 2 = q := by rfl) : Ends p e below s Qb kc ks T (mkF m pc Ls st) := by
  subst hq; exact Ends.go (fun t => XS.dload X.here hx rfl hd hl) k'
theorem E.dloadN {v : UInt64} (X : Stand p l e R s m args below meth c T locs cells slots) (hx : p.tables.exec = Jvm.exec) (hd : decode c.code pc = .ok (.dload_n kf, 1)) (hl : Ls[kf.val]? = some (.val (.double v))) (k' : Ends p e below s Qb kc ks T (mkF m q Ls (.double v :: st))) (hq : pc + 1 = q := by rfl) : Ends p e below s Qb kc ks T (mkF m pc Ls st) := by
  subst hq; exact Ends.go (fun t => XS.dloadN X.here hx rfl hd hl) k'
theorem E.dstore {v : UInt64} (X : Stand p l e R s m args below meth c T locs cells slots) (hx : p.tables.exec = Jvm.exec) (hd : decode c.code pc = .ok (.dstore k, 2)) (hl : storeLocals Ls k (.double v) = some l') (k' : Ends p e below s Qb kc ks T (mkF m q l' st)) (hq : pc + 2 = q := by rfl) : Ends p e below s Qb kc ks T (mkF m pc Ls (.double v :: st)) := by
  subst hq; exact Ends.go (fun t => XS.dstore X.here hx rfl hd rfl hl) k'
theorem E.dstoreN {v : UInt64} (X : Stand p l e R s m args below meth c T locs cells slots) (hx : p.tables.exec = Jvm.exec) (hd : decode c.code pc = .ok (.dstore_n kf, 1)) (hl : storeLocals Ls kf.val (.double v) = some l') (k' : Ends p e below s Qb kc ks T (mkF m q l' st)) (hq : pc + 1 = q := by rfl) : Ends p e below s Qb kc ks T (mkF m pc Ls (.double v :: st)) := by
  subst hq; exact Ends.go (fun t => XS.dstoreN X.here hx rfl hd rfl hl) k'
theorem E.aload {v : Value} (X : Stand p l e R s m args below meth c T locs cells slots) (hx : p.tables.exec = Jvm.exec) (hd : decode c.code pc = .ok (.aload k, 2)) (hl : Ls[k]? = some (.val v)) (hv : v.isRef = true) (k' : Ends p e below s Qb kc ks T (mkF m q Ls (v :: st))) (hq : pc + 2 = q := by rfl) : Ends p e below s Qb kc ks T (mkF m pc Ls st) := by
  subst hq; exact Ends.go (fun t => XS.aload X.here hx rfl hd hl hv) k'
theorem E.aloadN {v : Value} (X : Stand p l e R s m args below meth c T locs cells slots) (hx : p.tables.exec = Jvm.exec) (hd : decode c.code pc = .ok (.aload_n kf, 1)) (hl : Ls[kf.val]? = some (.val v)) (hv : v.isRef = true) (k' : Ends p e below s Qb kc ks T (mkF m q Ls (v :: st))) (hq : pc + 1 = q := by rfl) : Ends p e below s Qb kc ks T (mkF m pc Ls st) := by
  subst hq; exact Ends.go (fun t => XS.aloadN X.here hx rfl hd hl hv) k'
theorem E.astore {v : Value} (X : Stand p l e R s m args below meth c T locs cells slots) (hx : p.tables.exec = Jvm.exec) (hd : decode c.code pc = .ok (.astore k, 2)) (hv : v.isRef = true) (hl : storeLocals Ls k v = some l') (k' : Ends p e below s Qb kc ks T (mkF m q l' st)) (hq : pc + 2 = q := by rfl) : Ends p e below s Qb kc ks T (mkF m pc Ls (v :: st)) := by
  subst hq; exact Ends.go (fun t => XS.astore X.here hx rfl hd rfl hv hl) k'
theorem E.astoreN {v : Value} (X : Stand p l e R s m args below meth c T locs cells slots) (hx : p.tables.exec = Jvm.exec) (hd : decode c.code pc = .ok (.astore_n kf, 1)) (hv : v.isRef = true) (hl : storeLocals Ls kf.val v = some l') (k' : Ends p e below s Qb kc ks T (mkF m q l' st)) (hq : pc + 1 = q := by rfl) : Ends p e below s Qb kc ks T (mkF m pc Ls (v :: st)) := by
  subst hq; exact Ends.go (fun t => XS.astoreN X.here hx rfl hd rfl hv hl) k'
theorem E.iconst {i : Int} {v : Int32} (X : Stand p l e R s m args below meth c T locs cells slots) (hx : p.tables.exec = Jvm.exec) (hd : decode c.code pc = .ok (.iconst i, 1)) (hv : Int32.ofInt i = v) (k' : Ends p e below s Qb kc ks T (mkF m q Ls (.int v :: st))) (hq : pc + 1 = q := by rfl) : Ends p e below s Qb kc ks T (mkF m pc Ls st) := by
  subst hq; subst hv; exact Ends.go (fun t => XS.iconst X.here hx rfl hd) k'
theorem E.bipush {i : Int} {v : Int32} (X : Stand p l e R s m args below meth c T locs cells slots) (hx : p.tables.exec = Jvm.exec) (hd : decode c.code pc = .ok (.bipush i, 2)) (hv : (Int8.ofInt i).toInt32 = v) (k' : Ends p e below s Qb kc ks T (mkF m q Ls (.int v :: st))) (hq : pc + 2 = q := by rfl) : Ends p e below s Qb kc ks T (mkF m pc Ls st) := by
  subst hq; subst hv; exact Ends.go (fun t => XS.bipush X.here hx rfl hd) k'
theorem E.sipush {i : Int} {v : Int32} (X : Stand p l e R s m args below meth c T locs cells slots) (hx : p.tables.exec = Jvm.exec) (hd : decode c.code pc = .ok (.sipush i, 3)) (hv : (Int16.ofInt i).toInt32 = v) (k' : Ends p e below s Qb kc ks T (mkF m q Ls (.int v :: st))) (hq : pc + 3 = q := by rfl) : Ends p e below s Qb kc ks T (mkF m pc Ls st) := by
  subst hq; subst hv; exact Ends.go (fun t => XS.sipush X.here hx rfl hd) k'
theorem E.lconst {v : Int64} (X : Stand p l e R s m args below meth c T locs cells slots) (hx : p.tables.exec = Jvm.exec) (hd : decode c.code pc = .ok (.lconst k2, 1)) (hv : Int64.ofNat k2 = v) (k' : Ends p e below s Qb kc ks T (mkF m q Ls (.long v :: st))) (hq : pc + 1 = q := by rfl) : Ends p e below s Qb kc ks T (mkF m pc Ls st) := by
  subst hq; subst hv; exact Ends.go (fun t => XS.lconst X.here hx rfl hd) k'
theorem E.dconst0 {v : UInt64} (X : Stand p l e R s m args below meth c T locs cells slots) (hx : p.tables.exec = Jvm.exec) (hd : decode c.code pc = .ok (.dconst 0, 1)) (hv : FP.dconst0 = v) (k' : Ends p e below s Qb kc ks T (mkF m q Ls (.double v :: st))) (hq : pc + 1 = q := by rfl) : Ends p e below s Qb kc ks T (mkF m pc Ls st) := by
  subst hq; exact Ends.go (fun t => XS.dconst0 X.here hx rfl hd hv) k'
theorem E.dconst1 {v : UInt64} (X : Stand p l e R s m args below meth c T locs cells slots) (hx : p.tables.exec = Jvm.exec) (hd : decode c.code pc = .ok (.dconst 1, 1)) (hv : FP.dconst1 = v) (k' : Ends p e below s Qb kc ks T (mkF m q Ls (.double v :: st))) (hq : pc + 1 = q := by rfl) : Ends p e below s Qb kc ks T (mkF m pc Ls st) := by
  subst hq; exact Ends.go (fun t => XS.dconst1 X.here hx rfl hd hv) k'
theorem E.aconstNull  (X : Stand p l e R s m args below meth c T locs cells slots) (hx : p.tables.exec = Jvm.exec) (hd : decode c.code pc = .ok (.aconst_null, 1)) (k' : Ends p e below s Qb kc ks T (mkF m q Ls (.null :: st))) (hq : pc + 1 = q := by rfl) : Ends p e below s Qb kc ks T (mkF m pc Ls st) := by
  subst hq; exact Ends.go (fun t => XS.aconstNull X.here hx rfl hd) k'
theorem E.iadd {x y : Int32} (X : Stand p l e R s m args below meth c T locs cells slots) (hx : p.tables.exec = Jvm.exec) (hd : decode c.code pc = .ok (.iadd, 1)) (k' : Ends p e below s Qb kc ks T (mkF m q Ls (.int (x + y) :: st))) (hq : pc + 1 = q := by rfl) : Ends p e below s Qb kc ks T (mkF m pc Ls (.int y :: .int x :: st)) := by
  subst hq; exact Ends.go (fun t => XS.iadd X.here hx rfl hd rfl) k'
theorem E.isub {x y : Int32} (X : Stand p l e R s m args below meth c T locs cells slots) (hx : p.tables.exec = Jvm.exec) (hd : decode c.code pc = .ok (.isub, 1)) (k' : Ends p e below s Qb kc ks T (mkF m q Ls (.int (x - y) :: st))) (hq : pc + 1 = q := by rfl) : Ends p e below s Qb kc ks T (mkF m pc Ls (.int y :: .int x :: st)) := by
  subst hq; exact Ends.go (fun t => XS.isub X.here hx rfl hd rfl) k'
theorem E.imul {x y : Int32} (X : Stand p l e R s m args below meth c T locs cells slots) (hx : p.tables.exec = Jvm.exec) (hd : decode c.code pc = .ok (.imul, 1)) (k' : Ends p e below s Qb kc ks T (mkF m q Ls (.int (x * y) :: st))) (hq : pc + 1 = q := by rfl) : Ends p e below s Qb kc ks T (mkF m pc Ls (.int y :: .int x :: st)) := by
  subst hq; exact Ends.go (fun t => XS.imul X.here hx rfl hd rfl) k'
theorem E.iand {x y : Int32} (X : Stand p l e R s m args below meth c T locs cells slots) (hx : p.tables.exec = Jvm.exec) (hd : decode c.code pc = .ok (.iand, 1)) (k' : Ends p e below s Qb kc ks T (mkF m q Ls (.int (x &&& y) :: st))) (hq : pc + 1 = q := by rfl) : Ends p e below s Qb kc ks T (mkF m pc Ls (.int y :: .int x :: st)) := by
  subst hq; exact Ends.go (fun t => XS.iand X.here hx rfl hd rfl) k'
theorem E.ior {x y : Int32} (X : Stand p l e R s m args below meth c T locs cells slots) (hx : p.tables.exec = Jvm.exec) (hd : decode c.code pc = .ok (.ior, 1)) (k' : Ends p e below s Qb kc ks T (mkF m q Ls (.int (x ||| y) :: st))) (hq : pc + 1 = q := by rfl) : Ends p e below s Qb kc ks T (mkF m pc Ls (.int y :: .int x :: st)) := by
  subst hq; exact Ends.go (fun t => XS.ior X.here hx rfl hd rfl) k'
theorem E.ixor {x y : Int32} (X : Stand p l e R s m args below meth c T locs cells slots) (hx : p.tables.exec = Jvm.exec) (hd : decode c.code pc = .ok (.ixor, 1)) (k' : Ends p e below s Qb kc ks T (mkF m q Ls (.int (x ^^^ y) :: st))) (hq : pc + 1 = q := by rfl) : Ends p e below s Qb kc ks T (mkF m pc Ls (.int y :: .int x :: st)) := by
  subst hq; exact Ends.go (fun t => XS.ixor X.here hx rfl hd rfl) k'
theorem E.ladd {x y : Int64} (X : Stand p l e R s m args below meth c T locs cells slots) (hx : p.tables.exec = Jvm.exec) (hd : decode c.code pc = .ok (.ladd, 1)) (k' : Ends p e below s Qb kc ks T (mkF m q Ls (.long (x + y) :: st))) (hq : pc + 1 = q := by rfl) : Ends p e below s Qb kc ks T (mkF m pc Ls (.long y :: .long x :: st)) := by
  subst hq; exact Ends.go (fun t => XS.ladd X.here hx rfl hd rfl) k'
theorem E.lsub {x y : Int64} (X : Stand p l e R s m args below meth c T locs cells slots) (hx : p.tables.exec = Jvm.exec) (hd : decode c.code pc = .ok (.lsub, 1)) (k' : Ends p e below s Qb kc ks T (mkF m q Ls (.long (x - y) :: st))) (hq : pc + 1 = q := by rfl) : Ends p e below s Qb kc ks T (mkF m pc Ls (.long y :: .long x :: st)) := by
  subst hq; exact Ends.go (fun t => XS.lsub X.here hx rfl hd rfl) k'
theorem E.lmul {x y : Int64} (X : Stand p l e R s m args below meth c T locs cells slots) (hx : p.tables.exec = Jvm.exec) (hd : decode c.code pc = .ok (.lmul, 1)) (k' : Ends p e below s Qb kc ks T (mkF m q Ls (.long (x * y) :: st))) (hq : pc + 1 = q := by rfl) : Ends p e below s Qb kc ks T (mkF m pc Ls (.long y :: .long x :: st)) := by
  subst hq; exact Ends.go (fun t => XS.lmul X.here hx rfl hd rfl) k'
theorem E.land {x y : Int64} (X : Stand p l e R s m args below meth c T locs cells slots) (hx : p.tables.exec = Jvm.exec) (hd : decode c.code pc = .ok (.land, 1)) (k' : Ends p e below s Qb kc ks T (mkF m q Ls (.long (x &&& y) :: st))) (hq : pc + 1 = q := by rfl) : Ends p e below s Qb kc ks T (mkF m pc Ls (.long y :: .long x :: st)) := by
  subst hq; exact Ends.go (fun t => XS.land X.here hx rfl hd rfl) k'
theorem E.lor {x y : Int64} (X : Stand p l e R s m args below meth c T locs cells slots) (hx : p.tables.exec = Jvm.exec) (hd : decode c.code pc = .ok (.lor, 1)) (k' : Ends p e below s Qb kc ks T (mkF m q Ls (.long (x ||| y) :: st))) (hq : pc + 1 = q := by rfl) : Ends p e below s Qb kc ks T (mkF m pc Ls (.long y :: .long x :: st)) := by
  subst hq; exact Ends.go (fun t => XS.lor X.here hx rfl hd rfl) k'
theorem E.lxor {x y : Int64} (X : Stand p l e R s m args below meth c T locs cells slots) (hx : p.tables.exec = Jvm.exec) (hd : decode c.code pc = .ok (.lxor, 1)) (k' : Ends p e below s Qb kc ks T (mkF m q Ls (.long (x ^^^ y) :: st))) (hq : pc + 1 = q := by rfl) : Ends p e below s Qb kc ks T (mkF m pc Ls (.long y :: .long x :: st)) := by
  subst hq; exact Ends.go (fun t => XS.lxor X.here hx rfl hd rfl) k'
theorem E.ishl {x : Int32} {y : Int32} (X : Stand p l e R s m args below meth c T locs cells slots) (hx : p.tables.exec = Jvm.exec) (hd : decode c.code pc = .ok (.ishl, 1)) (k' : Ends p e below s Qb kc ks T (mkF m q Ls (.int (x <<< (y &&& 31)) :: st))) (hq : pc + 1 = q := by rfl) : Ends p e below s Qb kc ks T (mkF m pc Ls (.int y :: .int x :: st)) := by
  subst hq; exact Ends.go (fun t => XS.ishl X.here hx rfl hd rfl) k'
theorem E.ishr {x : Int32} {y : Int32} (X : Stand p l e R s m args below meth c T locs cells slots) (hx : p.tables.exec = Jvm.exec) (hd : decode c.code pc = .ok (.ishr, 1)) (k' : Ends p e below s Qb kc ks T (mkF m q Ls (.int (x >>> (y &&& 31)) :: st))) (hq : pc + 1 = q := by rfl) : Ends p e below s Qb kc ks T (mkF m pc Ls (.int y :: .int x :: st)) := by
  subst hq; exact Ends.go (fun t => XS.ishr X.here hx rfl hd rfl) k'
theorem E.iushr {x : Int32} {y : Int32} (X : Stand p l e R s m args below meth c T locs cells slots) (hx : p.tables.exec = Jvm.exec) (hd : decode c.code pc = .ok (.iushr, 1)) (k' : Ends p e below s Qb kc ks T (mkF m q Ls (.int ((x.toUInt32 >>> (y &&& 31).toUInt32).toInt32) :: st))) (hq : pc + 1 = q := by rfl) : Ends p e below s Qb kc ks T (mkF m pc Ls (.int y :: .int x :: st)) := by
  subst hq; exact Ends.go (fun t => XS.iushr X.here hx rfl hd rfl) k'
theorem E.lshl {x : Int64} {y : Int32} (X : Stand p l e R s m args below meth c T locs cells slots) (hx : p.tables.exec = Jvm.exec) (hd : decode c.code pc = .ok (.lshl, 1)) (k' : Ends p e below s Qb kc ks T (mkF m q Ls (.long (x <<< (y &&& 0x3f).toInt64) :: st))) (hq : pc + 1 = q := by rfl) : Ends p e below s Qb kc ks T (mkF m pc Ls (.int y :: .long x :: st)) := by
  subst hq; exact Ends.go (fun t => XS.lshl X.here hx rfl hd rfl) k'
theorem E.lshr {x : Int64} {y : Int32} (X : Stand p l e R s m args below meth c T locs cells slots) (hx : p.tables.exec = Jvm.exec) (hd : decode c.code pc = .ok (.lshr, 1)) (k' : Ends p e below s Qb kc ks T (mkF m q Ls (.long (x >>> (y &&& 0x3f).toInt64) :: st))) (hq : pc + 1 = q := by rfl) : Ends p e below s Qb kc ks T (mkF m pc Ls (.int y :: .long x :: st)) := by
  subst hq; exact Ends.go (fun t => XS.lshr X.here hx rfl hd rfl) k'
theorem E.lushr {x : Int64} {y : Int32} (X : Stand p l e R s m args below meth c T locs cells slots) (hx : p.tables.exec = Jvm.exec) (hd : decode c.code pc = .ok (.lushr, 1)) (k' : Ends p e below s Qb kc ks T (mkF m q Ls (.long ((x.toUInt64 >>> (y &&& 0x3f).toInt64.toUInt64).toInt64) :: st))) (hq : pc + 1 = q := by rfl) : Ends p e below s Qb kc ks T (mkF m pc Ls (.int y :: .long x :: st)) := by
  subst hq; exact Ends.go (fun t => XS.lushr X.here hx rfl hd rfl) k'
theorem E.ineg {x : Int32} (X : Stand p l e R s m args below meth c T locs cells slots) (hx : p.tables.exec = Jvm.exec) (hd : decode c.code pc = .ok (.ineg, 1)) (k' : Ends p e below s Qb kc ks T (mkF m q Ls (.int (-x) :: st))) (hq : pc + 1 = q := by rfl) : Ends p e below s Qb kc ks T (mkF m pc Ls (.int x :: st)) := by
  subst hq; exact Ends.go (fun t => XS.ineg X.here hx rfl hd rfl) k'
theorem E.lneg {x : Int64} (X : Stand p l e R s m args below meth c T locs cells slots) (hx : p.tables.exec = Jvm.exec) (hd : decode c.code pc = .ok (.lneg, 1)) (k' : Ends p e below s Qb kc ks T (mkF m q Ls (.long (-x) :: st))) (hq : pc + 1 = q := by rfl) : Ends p e below s Qb kc ks T (mkF m pc Ls (.long x :: st)) := by
  subst hq; exact Ends.go (fun t => XS.lneg X.here hx rfl hd rfl) k'
theorem E.i2l {x : Int32} (X : Stand p l e R s m args below meth c T locs cells slots) (hx : p.tables.exec = Jvm.exec) (hd : decode c.code pc = .ok (.i2l, 1)) (k' : Ends p e below s Qb kc ks T (mkF m q Ls (.long (x.toInt64) :: st))) (hq : pc + 1 = q := by rfl) : Ends p e below s Qb kc ks T (mkF m pc Ls (.int x :: st)) := by
  subst hq; exact Ends.go (fun t => XS.i2l X.here hx rfl hd rfl) k'
theorem E.l2i {x : Int64} (X : Stand p l e R s m args below meth c T locs cells slots) (hx : p.tables.exec = Jvm.exec) (hd : decode c.code pc = .ok (.l2i, 1)) (k' : Ends p e below s Qb kc ks T (mkF m q Ls (.int (x.toInt32) :: st))) (hq : pc + 1 = q := by rfl) : Ends p e below s Qb kc ks T (mkF m pc Ls (.long x :: st)) := by
  subst hq; exact Ends.go (fun t => XS.l2i X.here hx rfl hd rfl) k'
theorem E.i2b {x : Int32} (X : Stand p l e R s m args below meth c T locs cells slots) (hx : p.tables.exec = Jvm.exec) (hd : decode c.code pc = .ok (.i2b, 1)) (k' : Ends p e below s Qb kc ks T (mkF m q Ls (.int (x.toInt8.toInt32) :: st))) (hq : pc + 1 = q := by rfl) : Ends p e below s Qb kc ks T (mkF m pc Ls (.int x :: st)) := by
  subst hq; exact Ends.go (fun t => XS.i2b X.here hx rfl hd rfl) k'
theorem E.i2s {x : Int32} (X : Stand p l e R s m args below meth c T locs cells slots) (hx : p.tables.exec = Jvm.exec) (hd : decode c.code pc = .ok (.i2s, 1)) (k' : Ends p e below s Qb kc ks T (mkF m q Ls (.int (x.toInt16.toInt32) :: st))) (hq : pc + 1 = q := by rfl) : Ends p e below s Qb kc ks T (mkF m pc Ls (.int x :: st)) := by
  subst hq; exact Ends.go (fun t => XS.i2s X.here hx rfl hd rfl) k'
theorem E.i2c {x : Int32} (X : Stand p l e R s m args below meth c T locs cells slots) (hx : p.tables.exec = Jvm.exec) (hd : decode c.code pc = .ok (.i2c, 1)) (k' : Ends p e below s Qb kc ks T (mkF m q Ls (.int (x.toUInt32.toUInt16.toUInt32.toInt32) :: st))) (hq : pc + 1 = q := by rfl) : Ends p e below s Qb kc ks T (mkF m pc Ls (.int x :: st)) := by
  subst hq; exact Ends.go (fun t => XS.i2c X.here hx rfl hd rfl) k'
theorem E.i2d {x : Int32} (X : Stand p l e R s m args below meth c T locs cells slots) (hx : p.tables.exec = Jvm.exec) (hd : decode c.code pc = .ok (.i2d, 1)) (k' : Ends p e below s Qb kc ks T (mkF m q Ls (.double (FP.i2d x) :: st))) (hq : pc + 1 = q := by rfl) : Ends p e below s Qb kc ks T (mkF m pc Ls (.int x :: st)) := by
  subst hq; exact Ends.go (fun t => XS.i2dS X.here hx rfl hd rfl rfl) k'
theorem E.lcmp {x y : Int64} (X : Stand p l e R s m args below meth c T locs cells slots) (hx : p.tables.exec = Jvm.exec) (hd : decode c.code pc = .ok (.lcmp, 1)) (k' : Ends p e below s Qb kc ks T (mkF m q Ls (.int (lcmpW x y) :: st))) (hq : pc + 1 = q := by rfl) : Ends p e below s Qb kc ks T (mkF m pc Ls (.long y :: .long x :: st)) := by
  subst hq; exact Ends.go (fun t => XS.lcmp X.here hx rfl hd rfl) k'
theorem E.dcmp {x y : UInt64} {o : CmpOp} (X : Stand p l e R s m args below meth c T locs cells slots) (hx : p.tables.exec = Jvm.exec) (hd : decode c.code pc = .ok (.dcmp o, 1)) (k' : Ends p e below s Qb kc ks T (mkF m q Ls (.int (cmpValue (FP.dcmp x y) o) :: st))) (hq : pc + 1 = q := by rfl) : Ends p e below s Qb kc ks T (mkF m pc Ls (.double y :: .double x :: st)) := by
  subst hq; exact Ends.go (fun t => XS.dcmpS X.here hx rfl hd rfl rfl) k'
theorem E.idiv {x y : Int32} (X : Stand p l e R s m args below meth c T locs cells slots) (hx : p.tables.exec = Jvm.exec) (hd : decode c.code pc = .ok (.idiv, 1)) (hy : ¬ y = 0) (k' : Ends p e below s Qb kc ks T (mkF m q Ls (.int (x / y) :: st))) (hq : pc + 1 = q := by rfl) : Ends p e below s Qb kc ks T (mkF m pc Ls (.int y :: .int x :: st)) := by
  subst hq; exact Ends.go (fun t => XS.idiv X.here hx rfl hd rfl hy) k'
theorem E.irem {x y : Int32} (X : Stand p l e R s m args below meth c T locs cells slots) (hx : p.tables.exec = Jvm.exec) (hd : decode c.code pc = .ok (.irem, 1)) (hy : ¬ y = 0) (k' : Ends p e below s Qb kc ks T (mkF m q Ls (.int (x % y) :: st))) (hq : pc + 1 = q := by rfl) : Ends p e below s Qb kc ks T (mkF m pc Ls (.int y :: .int x :: st)) := by
  subst hq; exact Ends.go (fun t => iremM X hx rfl hd rfl hy) k'
theorem E.ldiv {x y : Int64} (X : Stand p l e R s m args below meth c T locs cells slots) (hx : p.tables.exec = Jvm.exec) (hd : decode c.code pc = .ok (.ldiv, 1)) (hy : ¬ y = 0) (k' : Ends p e below s Qb kc ks T (mkF m q Ls (.long (x / y) :: st))) (hq : pc + 1 = q := by rfl) : Ends p e below s Qb kc ks T (mkF m pc Ls (.long y :: .long x :: st)) := by
  subst hq; exact Ends.go (fun t => XS.ldiv X.here hx rfl hd rfl hy) k'
theorem E.lrem {x y : Int64} (X : Stand p l e R s m args below meth c T locs cells slots) (hx : p.tables.exec = Jvm.exec) (hd : decode c.code pc = .ok (.lrem, 1)) (hy : ¬ y = 0) (k' : Ends p e below s Qb kc ks T (mkF m q Ls (.long (x - (x / y) * y) :: st))) (hq : pc + 1 = q := by rfl) : Ends p e below s Qb kc ks T (mkF m pc Ls (.long y :: .long x :: st)) := by
  subst hq; exact Ends.go (fun t => XS.lrem X.here hx rfl hd rfl hy) k'
theorem E.iinc {x v : Int32} {cst : Int} (X : Stand p l e R s m args below meth c T locs cells slots) (hx : p.tables.exec = Jvm.exec) (hd : decode c.code pc = .ok (.iinc k cst, 3)) (hl : Ls[k]? = some (.val (.int x))) (hv : x + Int32.ofInt cst = v) (hl' : storeLocals Ls k (.int v) = some l') (k' : Ends p e below s Qb kc ks T (mkF m q l' st)) (hq : pc + 3 = q := by rfl) : Ends p e below s Qb kc ks T (mkF m pc Ls st) := by
  subst hq; subst hv; exact Ends.go (fun t => XS.iinc X.here hx rfl hd hl hl') k'
theorem E.dup {v : Value} (X : Stand p l e R s m args below meth c T locs cells slots) (hx : p.tables.exec = Jvm.exec) (hd : decode c.code pc = .ok (.dup, 1)) (hc : v.category = 1) (k' : Ends p e below s Qb kc ks T (mkF m q Ls (v :: v :: st))) (hq : pc + 1 = q := by rfl) : Ends p e below s Qb kc ks T (mkF m pc Ls (v :: st)) := by
  subst hq; exact Ends.go (fun t => XS.dup X.here hx rfl hd rfl hc) k'
theorem E.pop {v : Value} (X : Stand p l e R s m args below meth c T locs cells slots) (hx : p.tables.exec = Jvm.exec) (hd : decode c.code pc = .ok (.pop, 1)) (hc : v.category = 1) (k' : Ends p e below s Qb kc ks T (mkF m q Ls st)) (hq : pc + 1 = q := by rfl) : Ends p e below s Qb kc ks T (mkF m pc Ls (v :: st)) := by
  subst hq; exact Ends.go (fun t => XS.pop X.here hx rfl hd rfl hc) k'
theorem E.dupX1 {v w : Value} (X : Stand p l e R s m args below meth c T locs cells slots) (hx : p.tables.exec = Jvm.exec) (hd : decode c.code pc = .ok (.dup_x1, 1)) (hc : v.category = 1) (hc2 : w.category = 1) (k' : Ends p e below s Qb kc ks T (mkF m q Ls (v :: w :: v :: st))) (hq : pc + 1 = q := by rfl) : Ends p e below s Qb kc ks T (mkF m pc Ls (v :: w :: st)) := by
  subst hq; exact Ends.go (fun t => XS.dupX1 X.here hx rfl hd rfl hc hc2) k'
theorem E.icmpY {x y : Int32} {cd : ClassFile.Cond} {o : Int} (X : Stand p l e R s m args below meth c T locs cells slots) (hx : p.tables.exec = Jvm.exec) (hd : decode c.code pc = .ok (.if_icmp cd o, 3)) (hc : if_icmp.holds cd x y = true) (k' : Ends p e below s Qb kc ks T (mkF m q Ls st)) (ho : 0 ≤ (pc : Int) + o := by decide) (hq : ((pc : Int) + o).toNat = q := by decide) : Ends p e below s Qb kc ks T (mkF m pc Ls (.int y :: .int x :: st)) :=
  Ends.go (fun t => XS.icmpYes X.here hx rfl rfl hd rfl hc ho hq) k'
theorem E.icmpN {x y : Int32} {cd : ClassFile.Cond} {o : Int} (X : Stand p l e R s m args below meth c T locs cells slots) (hx : p.tables.exec = Jvm.exec) (hd : decode c.code pc = .ok (.if_icmp cd o, 3)) (hc : if_icmp.holds cd x y = false) (k' : Ends p e below s Qb kc ks T (mkF m q Ls st)) (hq : pc + 3 = q := by rfl) : Ends p e below s Qb kc ks T (mkF m pc Ls (.int y :: .int x :: st)) := by
  subst hq; exact Ends.go (fun t => XS.icmpNo X.here hx rfl hd rfl hc) k'
theorem E.ifY {x : Int32} {cd : ClassFile.Cond} {o : Int} (X : Stand p l e R s m args below meth c T locs cells slots) (hx : p.tables.exec = Jvm.exec) (hd : decode c.code pc = .ok (.ifCond cd o, 3)) (hc : ifCond.holds cd x = true) (k' : Ends p e below s Qb kc ks T (mkF m q Ls st)) (ho : 0 ≤ (pc : Int) + o := by decide) (hq : ((pc : Int) + o).toNat = q := by decide) : Ends p e below s Qb kc ks T (mkF m pc Ls (.int x :: st)) :=
  Ends.go (fun t => XS.ifYes X.here hx rfl rfl hd rfl hc ho hq) k'
theorem E.ifN {x : Int32} {cd : ClassFile.Cond} {o : Int} (X : Stand p l e R s m args below meth c T locs cells slots) (hx : p.tables.exec = Jvm.exec) (hd : decode c.code pc = .ok (.ifCond cd o, 3)) (hc : ifCond.holds cd x = false) (k' : Ends p e below s Qb kc ks T (mkF m q Ls st)) (hq : pc + 3 = q := by rfl) : Ends p e below s Qb kc ks T (mkF m pc Ls (.int x :: st)) := by
  subst hq; exact Ends.go (fun t => XS.ifNo X.here hx rfl hd rfl hc) k'
theorem E.goto {o : Int} (X : Stand p l e R s m args below meth c T locs cells slots) (hx : p.tables.exec = Jvm.exec) (hd : decode c.code pc = .ok (.goto o, 3)) (k' : Ends p e below s Qb kc ks T (mkF m q Ls st)) (ho : 0 ≤ (pc : Int) + o := by decide) (hq : ((pc : Int) + o).toNat = q := by decide) : Ends p e below s Qb kc ks T (mkF m pc Ls st) :=
  Ends.go (fun t => XS.goto X.here hx rfl rfl hd ho hq) k'
theorem E.nullY {o : Int} (X : Stand p l e R s m args below meth c T locs cells slots) (hx : p.tables.exec = Jvm.exec) (hd : decode c.code pc = .ok (.ifnull o, 3)) (k' : Ends p e below s Qb kc ks T (mkF m q Ls st)) (ho : 0 ≤ (pc : Int) + o := by decide) (hq : ((pc : Int) + o).toNat = q := by decide) : Ends p e below s Qb kc ks T (mkF m pc Ls (.null :: st)) :=
  Ends.go (fun t => XS.ifnullYes X.here hx rfl rfl hd rfl ho hq) k'
theorem E.nullN {o : Int} {b : Addr} (X : Stand p l e R s m args below meth c T locs cells slots) (hx : p.tables.exec = Jvm.exec) (hd : decode c.code pc = .ok (.ifnull o, 3)) (k' : Ends p e below s Qb kc ks T (mkF m q Ls st)) (hq : pc + 3 = q := by rfl) : Ends p e below s Qb kc ks T (mkF m pc Ls (.ref b :: st)) := by
  subst hq; exact Ends.go (fun t => XS.ifnullNo X.here hx rfl hd rfl) k'
theorem E.nonnullY {o : Int} {b : Addr} (X : Stand p l e R s m args below meth c T locs cells slots) (hx : p.tables.exec = Jvm.exec) (hd : decode c.code pc = .ok (.ifnonnull o, 3)) (k' : Ends p e below s Qb kc ks T (mkF m q Ls st)) (ho : 0 ≤ (pc : Int) + o := by decide) (hq : ((pc : Int) + o).toNat = q := by decide) : Ends p e below s Qb kc ks T (mkF m pc Ls (.ref b :: st)) :=
  Ends.go (fun t => XS.ifnonnullYes X.here hx rfl rfl hd rfl ho hq) k'
theorem E.nonnullN {o : Int} (X : Stand p l e R s m args below meth c T locs cells slots) (hx : p.tables.exec = Jvm.exec) (hd : decode c.code pc = .ok (.ifnonnull o, 3)) (k' : Ends p e below s Qb kc ks T (mkF m q Ls st)) (hq : pc + 3 = q := by rfl) : Ends p e below s Qb kc ks T (mkF m pc Ls (.null :: st)) := by
  subst hq; exact Ends.go (fun t => XS.ifnonnullNo X.here hx rfl hd rfl) k'
theorem E.ldc {v : Int32} {own : String} {index : Nat} (X : Stand p l e R s m args below meth c T locs cells slots) (hx : p.tables.exec = Jvm.exec) (hZ : Z.Warmed39 s.vm) (hown : s.vm.findClass own = some m.cls) (hc : (Jvm.Cond.constant own index v).before a0 Z = true) (hd : decode c.code pc = .ok (.ldc index, 2)) (k' : Ends p e below s Qb kc ks T (mkF m q Ls (.int v :: st))) (hq : pc + 2 = q := by rfl) : Ends p e below s Qb kc ks T (mkF m pc Ls st) := by
  subst hq; exact Ends.go (fun t => X.ldcI hx hown (mvT hZ hc) rfl hd) k'
theorem E.ldcW {v : Int32} {own : String} {index : Nat} (X : Stand p l e R s m args below meth c T locs cells slots) (hx : p.tables.exec = Jvm.exec) (hZ : Z.Warmed39 s.vm) (hown : s.vm.findClass own = some m.cls) (hc : (Jvm.Cond.constant own index v).before a0 Z = true) (hd : decode c.code pc = .ok (.ldc_w index, 3)) (k' : Ends p e below s Qb kc ks T (mkF m q Ls (.int v :: st))) (hq : pc + 3 = q := by rfl) : Ends p e below s Qb kc ks T (mkF m pc Ls st) := by
  subst hq; exact Ends.go (fun t => X.ldcWI hx hown (mvT hZ hc) rfl hd) k'
theorem E.ldc2 {v : Int64} {own : String} {index : Nat} (X : Stand p l e R s m args below meth c T locs cells slots) (hx : p.tables.exec = Jvm.exec) (hZ : Z.Warmed39 s.vm) (hown : s.vm.findClass own = some m.cls) (hc : (Jvm.Cond.constantLong own index v).before a0 Z = true) (hd : decode c.code pc = .ok (.ldc2_w index, 3)) (k' : Ends p e below s Qb kc ks T (mkF m q Ls (.long v :: st))) (hq : pc + 3 = q := by rfl) : Ends p e below s Qb kc ks T (mkF m pc Ls st) := by
  subst hq; exact Ends.go (fun t => X.ldc2J hx hown (mvT hZ hc) rfl hd) k'
end OwnSteps
/-! own text: bitCount of a long, by its bytes -/
theorem own_andB (k a b : Nat) : a &&& b = (a % 2 ^ k &&& b % 2 ^ k) + 2 ^ k * (a / 2 ^ k &&& b / 2 ^ k) := by
  rw [← Nat.and_mod_two_pow, ← Nat.and_div_two_pow, Nat.mod_add_div]
theorem own_and8 (d y e M : Nat) (hd : d < 256) (he : e < 256) : (d + 256 * y) &&& (e + 256 * M) = (d &&& e) + 256 * (y &&& M) := by
  have h := own_andB 8 (d + 256 * y) (e + 256 * M)
  have h1 : (d + 256 * y) % 2 ^ 8 = d := by omega
  have h2 : (e + 256 * M) % 2 ^ 8 = e := by omega
  have h3 : (d + 256 * y) / 2 ^ 8 = y := by omega
  have h4 : (e + 256 * M) / 2 ^ 8 = M := by omega
  rw [h1, h2, h3, h4] at h
  exact h
def own_A (d : Nat) : Nat := d - (d / 2 &&& 85)
def own_B (d : Nat) : Nat := (d &&& 51) + (d / 4 &&& 51)
def own_G (d : Nat) : Nat := (own_B (own_A d) + own_B (own_A d) / 16) &&& 15
theorem own_k1 : ∀ d : Fin 256, ∀ b : Fin 2, (d.1 / 2 + 128 * b.1) &&& 85 = d.1 / 2 &&& 85 := by decide +kernel
theorem own_k2 : ∀ d : Fin 256, ∀ b : Fin 4, (d.1 / 4 + 64 * b.1) &&& 51 = d.1 / 4 &&& 51 := by decide +kernel
theorem own_k3 : ∀ d : Fin 256, own_A d.1 < 256 ∧ own_B (own_A d.1) % 16 ≤ 4 ∧ own_B (own_A d.1) / 16 ≤ 4 ∧ own_G d.1 ≤ 8 := by decide +kernel
theorem own_k4 : ∀ b : Fin 69, ∀ t : Fin 5, (b.1 + b.1 / 16 + 16 * t.1) &&& 15 = (b.1 + b.1 / 16) &&& 15 := by decide +kernel
theorem own_k5 : ∀ d : Fin 256, own_G d.1 = 0 → d.1 = 0 := by decide +kernel
theorem own_k6 : ∀ d : Fin 256, own_G d.1 = 1 → ∃ j : Fin 8, d.1 = 2 ^ j.1 := by decide +kernel
theorem own_s1 (d y M : Nat) (hd : d < 256) : (d + 256 * y) - ((d + 256 * y) / 2 &&& (85 + 256 * M)) = own_A d + 256 * (y - (y / 2 &&& M)) := by
  have h1 : (d + 256 * y) / 2 = (d / 2 + 128 * (y % 2)) + 256 * (y / 2) := by omega
  have h2 := own_k1 ⟨d, hd⟩ ⟨y % 2, by omega⟩
  simp only at h2
  rw [h1, own_and8 _ _ _ _ (by omega) (by decide), h2]
  have h3 : (d / 2 &&& 85) ≤ d / 2 := Nat.and_le_left
  have h4 : (y / 2 &&& M) ≤ y / 2 := Nat.and_le_left
  unfold own_A
  omega
theorem own_s2 (d y M : Nat) (hd : d < 256) : ((d + 256 * y) &&& (51 + 256 * M)) + ((d + 256 * y) / 4 &&& (51 + 256 * M)) = own_B d + 256 * ((y &&& M) + (y / 4 &&& M)) := by
  have h1 : (d + 256 * y) / 4 = (d / 4 + 64 * (y % 4)) + 256 * (y / 4) := by omega
  have h2 := own_k2 ⟨d, hd⟩ ⟨y % 4, by omega⟩
  simp only at h2
  rw [h1, own_and8 (d / 4 + 64 * (y % 4)) _ _ _ (by omega) (by decide), own_and8 d y _ _ hd (by decide), h2]
  unfold own_B
  omega
theorem own_s3 (b y M : Nat) (hb : b % 16 ≤ 4) (hb2 : b / 16 ≤ 4) (hy : y % 16 ≤ 4) : ((b + 256 * y) + (b + 256 * y) / 16) &&& (15 + 256 * M) = ((b + b / 16) &&& 15) + 256 * ((y + y / 16) &&& M) := by
  have h1 : (b + 256 * y) + (b + 256 * y) / 16 = (b + b / 16 + 16 * (y % 16)) + 256 * (y + y / 16) := by omega
  have h2 := own_k4 ⟨b, by omega⟩ ⟨y % 16, by omega⟩
  simp only at h2
  rw [h1, own_and8 _ _ _ _ (by omega) (by decide), h2]
def own_f1 (x : Nat) : Nat := x - (x / 2 &&& 6148914691236517205)
def own_f2 (x : Nat) : Nat := (x &&& 3689348814741910323) + (x / 4 &&& 3689348814741910323)
def own_f3 (x : Nat) : Nat := (x + x / 16) &&& 1085102592571150095
def own_f4 (x : Nat) : Nat := x + x / 256
def own_f5 (x : Nat) : Nat := x + x / 65536
def own_f6 (x : Nat) : Nat := x + x / 4294967296
def own_F (x : Nat) : Nat := own_f6 (own_f5 (own_f4 (own_f3 (own_f2 (own_f1 x))))) % 128
theorem own_div {a b m : Nat} (h : a < m) : (a + m * b) / m = b := by
  rw [Nat.add_mul_div_left _ _ (by omega), Nat.div_eq_of_lt h, Nat.zero_add]
theorem own_sum4 (c0 c1 c2 c3 c4 c5 c6 c7 : Nat) (q0 : c0 ≤ 8) : (c0 + 256 * (c1 + 256 * (c2 + 256 * (c3 + 256 * (c4 + 256 * (c5 + 256 * (c6 + 256 * c7))))))) + (c0 + 256 * (c1 + 256 * (c2 + 256 * (c3 + 256 * (c4 + 256 * (c5 + 256 * (c6 + 256 * c7))))))) / 256 = ((c0 + c1) + 256 * (c1 + c2)) + 65536 * ((c2 + c3) + 256 * ((c3 + c4) + 256 * ((c4 + c5) + 256 * ((c5 + c6) + 256 * ((c6 + c7) + 256 * c7))))) := by
  rw [own_div (show c0 < 256 by omega)]; clear q0; omega
theorem own_sum5 (c0 c1 c2 c3 c4 c5 c6 c7 : Nat) (q0 : c0 ≤ 8) (q1 : c1 ≤ 8) (q2 : c2 ≤ 8) : (((c0 + c1) + 256 * (c1 + c2)) + 65536 * ((c2 + c3) + 256 * ((c3 + c4) + 256 * ((c4 + c5) + 256 * ((c5 + c6) + 256 * ((c6 + c7) + 256 * c7)))))) + (((c0 + c1) + 256 * (c1 + c2)) + 65536 * ((c2 + c3) + 256 * ((c3 + c4) + 256 * ((c4 + c5) + 256 * ((c5 + c6) + 256 * ((c6 + c7) + 256 * c7)))))) / 65536 = ((c0 + c1 + c2 + c3) + 256 * (c1 + c2 + c3 + c4) + 65536 * (c2 + c3 + c4 + c5) + 16777216 * (c3 + c4 + c5 + c6)) + 4294967296 * ((c4 + c5 + c6 + c7) + 256 * ((c5 + c6 + c7) + 256 * ((c6 + c7) + 256 * c7))) := by
  rw [own_div (show (c0 + c1) + 256 * (c1 + c2) < 65536 by omega)]; clear q0 q1 q2; omega
theorem own_sum6 (c0 c1 c2 c3 c4 c5 c6 c7 : Nat) (q0 : c0 ≤ 8) (q1 : c1 ≤ 8) (q2 : c2 ≤ 8) (q3 : c3 ≤ 8) (q4 : c4 ≤ 8) (q5 : c5 ≤ 8) (q6 : c6 ≤ 8) : (((c0 + c1 + c2 + c3) + 256 * (c1 + c2 + c3 + c4) + 65536 * (c2 + c3 + c4 + c5) + 16777216 * (c3 + c4 + c5 + c6)) + 4294967296 * ((c4 + c5 + c6 + c7) + 256 * ((c5 + c6 + c7) + 256 * ((c6 + c7) + 256 * c7)))) + (((c0 + c1 + c2 + c3) + 256 * (c1 + c2 + c3 + c4) + 65536 * (c2 + c3 + c4 + c5) + 16777216 * (c3 + c4 + c5 + c6)) + 4294967296 * ((c4 + c5 + c6 + c7) + 256 * ((c5 + c6 + c7) + 256 * ((c6 + c7) + 256 * c7)))) / 4294967296 = (c0 + c1 + c2 + c3 + c4 + c5 + c6 + c7) + 128 * (2 * (c1 + c2 + c3 + c4) + 512 * (c2 + c3 + c4 + c5) + 131072 * (c3 + c4 + c5 + c6) + 33554432 * ((c4 + c5 + c6 + c7) + 256 * ((c5 + c6 + c7) + 256 * ((c6 + c7) + 256 * c7))) + 2 * ((c5 + c6 + c7) + 256 * ((c6 + c7) + 256 * c7))) := by
  rw [own_div (show (c0 + c1 + c2 + c3) + 256 * (c1 + c2 + c3 + c4) + 65536 * (c2 + c3 + c4 + c5) + 16777216 * (c3 + c4 + c5 + c6) < 4294967296 by omega)]; clear q0 q1 q2 q3 q4 q5 q6; omega
theorem own_m1 : 6148914691236517205 = (85 + 256 * (85 + 256 * (85 + 256 * (85 + 256 * (85 + 256 * (85 + 256 * (85 + 256 * (85 + 256 * 0)))))))) := rfl
theorem own_m2 : 3689348814741910323 = (51 + 256 * (51 + 256 * (51 + 256 * (51 + 256 * (51 + 256 * (51 + 256 * (51 + 256 * (51 + 256 * 0)))))))) := rfl
theorem own_m3 : 1085102592571150095 = (15 + 256 * (15 + 256 * (15 + 256 * (15 + 256 * (15 + 256 * (15 + 256 * (15 + 256 * (15 + 256 * 0)))))))) := rfl
theorem own_F1 (b0 b1 b2 b3 b4 b5 b6 b7 : Nat) (h0 : b0 < 256) (h1 : b1 < 256) (h2 : b2 < 256) (h3 : b3 < 256) (h4 : b4 < 256) (h5 : b5 < 256) (h6 : b6 < 256) (h7 : b7 < 256) : own_f1 (b0 + 256 * (b1 + 256 * (b2 + 256 * (b3 + 256 * (b4 + 256 * (b5 + 256 * (b6 + 256 * (b7 + 256 * 0)))))))) = (own_A b0 + 256 * (own_A b1 + 256 * (own_A b2 + 256 * (own_A b3 + 256 * (own_A b4 + 256 * (own_A b5 + 256 * (own_A b6 + 256 * (own_A b7 + 256 * 0)))))))) := by
  unfold own_f1
  rw [own_m1, own_s1 _ _ _ h0, own_s1 _ _ _ h1, own_s1 _ _ _ h2, own_s1 _ _ _ h3, own_s1 _ _ _ h4, own_s1 _ _ _ h5, own_s1 _ _ _ h6, own_s1 _ _ _ h7]
  rfl
theorem own_F2 (b0 b1 b2 b3 b4 b5 b6 b7 : Nat) (h0 : b0 < 256) (h1 : b1 < 256) (h2 : b2 < 256) (h3 : b3 < 256) (h4 : b4 < 256) (h5 : b5 < 256) (h6 : b6 < 256) (h7 : b7 < 256) : own_f2 (b0 + 256 * (b1 + 256 * (b2 + 256 * (b3 + 256 * (b4 + 256 * (b5 + 256 * (b6 + 256 * (b7 + 256 * 0)))))))) = (own_B b0 + 256 * (own_B b1 + 256 * (own_B b2 + 256 * (own_B b3 + 256 * (own_B b4 + 256 * (own_B b5 + 256 * (own_B b6 + 256 * (own_B b7 + 256 * 0)))))))) := by
  unfold own_f2
  rw [own_m2, own_s2 _ _ _ h0, own_s2 _ _ _ h1, own_s2 _ _ _ h2, own_s2 _ _ _ h3, own_s2 _ _ _ h4, own_s2 _ _ _ h5, own_s2 _ _ _ h6, own_s2 _ _ _ h7]
  rfl
theorem own_mod16 {b y : Nat} (h : b % 16 ≤ 4) : (b + 256 * y) % 16 ≤ 4 := by omega
theorem own_F3 (b0 b1 b2 b3 b4 b5 b6 b7 : Nat) (h0 : b0 % 16 ≤ 4) (h1 : b1 % 16 ≤ 4) (h2 : b2 % 16 ≤ 4) (h3 : b3 % 16 ≤ 4) (h4 : b4 % 16 ≤ 4) (h5 : b5 % 16 ≤ 4) (h6 : b6 % 16 ≤ 4) (h7 : b7 % 16 ≤ 4) (g0 : b0 / 16 ≤ 4) (g1 : b1 / 16 ≤ 4) (g2 : b2 / 16 ≤ 4) (g3 : b3 / 16 ≤ 4) (g4 : b4 / 16 ≤ 4) (g5 : b5 / 16 ≤ 4) (g6 : b6 / 16 ≤ 4) (g7 : b7 / 16 ≤ 4) : own_f3 (b0 + 256 * (b1 + 256 * (b2 + 256 * (b3 + 256 * (b4 + 256 * (b5 + 256 * (b6 + 256 * (b7 + 256 * 0)))))))) = (((b0 + b0 / 16) &&& 15) + 256 * (((b1 + b1 / 16) &&& 15) + 256 * (((b2 + b2 / 16) &&& 15) + 256 * (((b3 + b3 / 16) &&& 15) + 256 * (((b4 + b4 / 16) &&& 15) + 256 * (((b5 + b5 / 16) &&& 15) + 256 * (((b6 + b6 / 16) &&& 15) + 256 * (((b7 + b7 / 16) &&& 15) + 256 * 0)))))))) := by
  unfold own_f3
  rw [own_m3, own_s3 _ _ _ h0 g0 (own_mod16 h1), own_s3 _ _ _ h1 g1 (own_mod16 h2), own_s3 _ _ _ h2 g2 (own_mod16 h3), own_s3 _ _ _ h3 g3 (own_mod16 h4), own_s3 _ _ _ h4 g4 (own_mod16 h5), own_s3 _ _ _ h5 g5 (own_mod16 h6), own_s3 _ _ _ h6 g6 (own_mod16 h7), own_s3 _ _ _ h7 g7 (by decide)]
  rfl
theorem own_F4 (b0 b1 b2 b3 b4 b5 b6 b7 : Nat) (h0 : b0 ≤ 8) (h1 : b1 ≤ 8) (h2 : b2 ≤ 8) (h3 : b3 ≤ 8) (h4 : b4 ≤ 8) (h5 : b5 ≤ 8) (h6 : b6 ≤ 8) (h7 : b7 ≤ 8) : own_f6 (own_f5 (own_f4 (b0 + 256 * (b1 + 256 * (b2 + 256 * (b3 + 256 * (b4 + 256 * (b5 + 256 * (b6 + 256 * (b7 + 256 * 0)))))))))) % 128 = b0 + b1 + b2 + b3 + b4 + b5 + b6 + b7 := by
  unfold own_f6 own_f5 own_f4
  rw [Nat.mul_zero, Nat.add_zero, own_sum4 _ _ _ _ _ _ _ _ h0, own_sum5 _ _ _ _ _ _ _ _ h0 h1 h2, own_sum6 _ _ _ _ _ _ _ _ h0 h1 h2 h3 h4 h5 h6, Nat.add_mul_mod_self_left]
  exact Nat.mod_eq_of_lt (by omega)
theorem own_F_bytes (b0 b1 b2 b3 b4 b5 b6 b7 : Nat) (h0 : b0 < 256) (h1 : b1 < 256) (h2 : b2 < 256) (h3 : b3 < 256) (h4 : b4 < 256) (h5 : b5 < 256) (h6 : b6 < 256) (h7 : b7 < 256) :
    own_F (b0 + 256 * (b1 + 256 * (b2 + 256 * (b3 + 256 * (b4 + 256 * (b5 + 256 * (b6 + 256 * (b7 + 256 * 0)))))))) = own_G b0 + own_G b1 + own_G b2 + own_G b3 + own_G b4 + own_G b5 + own_G b6 + own_G b7 := by
  obtain ⟨i0, j0, k0, l0⟩ := own_k3 ⟨b0, h0⟩
  obtain ⟨i1, j1, k1, l1⟩ := own_k3 ⟨b1, h1⟩
  obtain ⟨i2, j2, k2, l2⟩ := own_k3 ⟨b2, h2⟩
  obtain ⟨i3, j3, k3, l3⟩ := own_k3 ⟨b3, h3⟩
  obtain ⟨i4, j4, k4, l4⟩ := own_k3 ⟨b4, h4⟩
  obtain ⟨i5, j5, k5, l5⟩ := own_k3 ⟨b5, h5⟩
  obtain ⟨i6, j6, k6, l6⟩ := own_k3 ⟨b6, h6⟩
  obtain ⟨i7, j7, k7, l7⟩ := own_k3 ⟨b7, h7⟩
  unfold own_F
  rw [own_F1 _ _ _ _ _ _ _ _ h0 h1 h2 h3 h4 h5 h6 h7, own_F2 _ _ _ _ _ _ _ _ i0 i1 i2 i3 i4 i5 i6 i7, own_F3 _ _ _ _ _ _ _ _ j0 j1 j2 j3 j4 j5 j6 j7 k0 k1 k2 k3 k4 k5 k6 k7]
  exact own_F4 _ _ _ _ _ _ _ _ l0 l1 l2 l3 l4 l5 l6 l7
set_option maxHeartbeats 4000000 in
theorem own_F_one (x : Nat) (hx : x < 2 ^ 64) (h : own_F x = 1) : ∃ k, k < 64 ∧ x = 2 ^ k := by
  have e : x = x % 256 + 256 * (x / 256 % 256 + 256 * (x / 65536 % 256 + 256 * (x / 16777216 % 256 + 256 * (x / 4294967296 % 256 + 256 * (x / 1099511627776 % 256 + 256 * (x / 281474976710656 % 256 + 256 * (x / 72057594037927936 % 256 + 256 * 0))))))) := by omega
  have hf := own_F_bytes (x % 256) (x / 256 % 256) (x / 65536 % 256) (x / 16777216 % 256) (x / 4294967296 % 256) (x / 1099511627776 % 256) (x / 281474976710656 % 256) (x / 72057594037927936 % 256) (by omega) (by omega) (by omega) (by omega) (by omega) (by omega) (by omega) (by omega)
  rw [← e, h] at hf
  have z : ∀ d, d < 256 → own_G d = 0 → d = 0 := fun d hd => own_k5 ⟨d, hd⟩
  have o : ∀ d, d < 256 → own_G d = 1 → ∃ j, j < 8 ∧ d = 2 ^ j := fun d hd q => by
    obtain ⟨j, hj⟩ := own_k6 ⟨d, hd⟩ q
    exact ⟨j.1, j.2, hj⟩
  have b0 : x % 256 < 256 := by omega
  have b1 : x / 256 % 256 < 256 := by omega
  have b2 : x / 65536 % 256 < 256 := by omega
  have b3 : x / 16777216 % 256 < 256 := by omega
  have b4 : x / 4294967296 % 256 < 256 := by omega
  have b5 : x / 1099511627776 % 256 < 256 := by omega
  have b6 : x / 281474976710656 % 256 < 256 := by omega
  have b7 : x / 72057594037927936 % 256 < 256 := by omega
  generalize x % 256 = d0 at *
  generalize x / 256 % 256 = d1 at *
  generalize x / 65536 % 256 = d2 at *
  generalize x / 16777216 % 256 = d3 at *
  generalize x / 4294967296 % 256 = d4 at *
  generalize x / 1099511627776 % 256 = d5 at *
  generalize x / 281474976710656 % 256 = d6 at *
  generalize x / 72057594037927936 % 256 = d7 at *
  have y0 := z d0 b0; have y1 := z d1 b1; have y2 := z d2 b2; have y3 := z d3 b3; have y4 := z d4 b4; have y5 := z d5 b5; have y6 := z d6 b6; have y7 := z d7 b7
  have o0 := o d0 b0; have o1 := o d1 b1; have o2 := o d2 b2; have o3 := o d3 b3; have o4 := o d4 b4; have o5 := o d5 b5; have o6 := o d6 b6; have o7 := o d7 b7
  have c : own_G d0 = 1 ∨ own_G d1 = 1 ∨ own_G d2 = 1 ∨ own_G d3 = 1 ∨ own_G d4 = 1 ∨ own_G d5 = 1 ∨ own_G d6 = 1 ∨ own_G d7 = 1 := by omega
  rcases c with c | c | c | c | c | c | c | c
  · obtain ⟨j, hj, hd⟩ := o0 c
    have := y1 (by omega); have := y2 (by omega); have := y3 (by omega); have := y4 (by omega); have := y5 (by omega); have := y6 (by omega); have := y7 (by omega)
    exact ⟨j, by omega, by omega⟩
  · obtain ⟨j, hj, hd⟩ := o1 c
    have := y0 (by omega); have := y2 (by omega); have := y3 (by omega); have := y4 (by omega); have := y5 (by omega); have := y6 (by omega); have := y7 (by omega)
    exact ⟨j + 8, by omega, by rw [Nat.pow_add]; omega⟩
  · obtain ⟨j, hj, hd⟩ := o2 c
    have := y0 (by omega); have := y1 (by omega); have := y3 (by omega); have := y4 (by omega); have := y5 (by omega); have := y6 (by omega); have := y7 (by omega)
    exact ⟨j + 16, by omega, by rw [Nat.pow_add]; omega⟩
  · obtain ⟨j, hj, hd⟩ := o3 c
    have := y0 (by omega); have := y1 (by omega); have := y2 (by omega); have := y4 (by omega); have := y5 (by omega); have := y6 (by omega); have := y7 (by omega)
    exact ⟨j + 24, by omega, by rw [Nat.pow_add]; omega⟩
  · obtain ⟨j, hj, hd⟩ := o4 c
    have := y0 (by omega); have := y1 (by omega); have := y2 (by omega); have := y3 (by omega); have := y5 (by omega); have := y6 (by omega); have := y7 (by omega)
    exact ⟨j + 32, by omega, by rw [Nat.pow_add]; omega⟩
  · obtain ⟨j, hj, hd⟩ := o5 c
    have := y0 (by omega); have := y1 (by omega); have := y2 (by omega); have := y3 (by omega); have := y4 (by omega); have := y6 (by omega); have := y7 (by omega)
    exact ⟨j + 40, by omega, by rw [Nat.pow_add]; omega⟩
  · obtain ⟨j, hj, hd⟩ := o6 c
    have := y0 (by omega); have := y1 (by omega); have := y2 (by omega); have := y3 (by omega); have := y4 (by omega); have := y5 (by omega); have := y7 (by omega)
    exact ⟨j + 48, by omega, by rw [Nat.pow_add]; omega⟩
  · obtain ⟨j, hj, hd⟩ := o7 c
    have := y0 (by omega); have := y1 (by omega); have := y2 (by omega); have := y3 (by omega); have := y4 (by omega); have := y5 (by omega); have := y6 (by omega)
    exact ⟨j + 56, by omega, by rw [Nat.pow_add]; omega⟩
/-! longs as naturals -/
def own_N (x : Int64) : Nat := x.toBitVec.toNat
def own_n (x : Int32) : Nat := x.toBitVec.toNat
theorem own_N_lt (x : Int64) : own_N x < 2 ^ 64 := x.toBitVec.isLt
theorem own_n_lt (x : Int32) : own_n x < 2 ^ 32 := x.toBitVec.isLt
theorem own_N_int (x : Int64) : x.toInt = if own_N x < 2 ^ 63 then (own_N x : Int) else (own_N x : Int) - 2 ^ 64 := by
  have h : x.toInt = x.toBitVec.toInt := rfl
  rw [h, BitVec.toInt_eq_toNat_cond]
  unfold own_N
  by_cases q : 2 * x.toBitVec.toNat < 2 ^ 64
  · rw [if_pos q, if_pos (by omega)]
  · rw [if_neg q, if_neg (by omega)]; rfl
theorem own_n_int (x : Int32) : x.toInt = if own_n x < 2 ^ 31 then (own_n x : Int) else (own_n x : Int) - 2 ^ 32 := by
  have h : x.toInt = x.toBitVec.toInt := rfl
  rw [h, BitVec.toInt_eq_toNat_cond]
  unfold own_n
  by_cases q : 2 * x.toBitVec.toNat < 2 ^ 32
  · rw [if_pos q, if_pos (by omega)]
  · rw [if_neg q, if_neg (by omega)]; rfl
theorem own_N_inj {x y : Int64} (h : own_N x = own_N y) : x = y := Int64.toBitVec_inj.mp (BitVec.eq_of_toNat_eq h)
theorem own_N_and (x y : Int64) : own_N (x &&& y) = own_N x &&& own_N y := by unfold own_N; rw [Int64.toBitVec_and, BitVec.toNat_and]
theorem own_N_shr (x : Int64) {n : UInt64} {k : Nat} (hn : n.toNat = k) (hk : k < 64) : own_N ((x.toUInt64 >>> n).toInt64) = own_N x / 2 ^ k := by
  unfold own_N
  simp only [UInt64.toBitVec_toInt64, UInt64.toBitVec_shiftRight, Int64.toBitVec_toUInt64]
  simp [BitVec.toNat_ushiftRight, Nat.shiftRight_eq_div_pow, hn, Nat.mod_eq_of_lt hk]
theorem own_N_add {x y : Int64} (h : own_N x + own_N y < 2 ^ 64) : own_N (x + y) = own_N x + own_N y := by
  unfold own_N at *; rw [Int64.toBitVec_add, BitVec.toNat_add, Nat.mod_eq_of_lt h]
theorem own_N_sub {x y : Int64} (h : own_N y ≤ own_N x) : own_N (x - y) = own_N x - own_N y := by
  have a := own_N_lt x
  unfold own_N at *; rw [Int64.toBitVec_sub, BitVec.toNat_sub]; omega
def own_bc1 (a : Int64) : Int64 := (a - (((a.toUInt64 >>> ((1 : Int32) &&& 0x3f).toInt64.toUInt64).toInt64) &&& (6148914691236517205 : Int64)))
def own_bc2 (a : Int64) : Int64 := ((a &&& (3689348814741910323 : Int64)) + (((a.toUInt64 >>> ((2 : Int32) &&& 0x3f).toInt64.toUInt64).toInt64) &&& (3689348814741910323 : Int64)))
def own_bc3 (a : Int64) : Int64 := ((a + ((a.toUInt64 >>> ((4 : Int32) &&& 0x3f).toInt64.toUInt64).toInt64)) &&& (1085102592571150095 : Int64))
def own_bc4 (a : Int64) : Int64 := (a + ((a.toUInt64 >>> ((8 : Int32) &&& 0x3f).toInt64.toUInt64).toInt64))
def own_bc5 (a : Int64) : Int64 := (a + ((a.toUInt64 >>> ((16 : Int32) &&& 0x3f).toInt64.toUInt64).toInt64))
def own_bc6 (a : Int64) : Int64 := (a + ((a.toUInt64 >>> ((32 : Int32) &&& 0x3f).toInt64.toUInt64).toInt64))
def own_bc (a : Int64) : Int32 := (((own_bc6 (own_bc5 (own_bc4 (own_bc3 (own_bc2 (own_bc1 a)))))).toInt32) &&& (127 : Int32))
theorem own_bc_F (a : Int64) : (own_bc a).toInt = own_F (own_N a) := by
  have h0 := own_N_lt a
  have e1 : own_N (own_bc1 a) = own_f1 (own_N a) := by
    unfold own_f1
    unfold own_bc1
    have q : own_N ((((a.toUInt64 >>> ((1 : Int32) &&& 0x3f).toInt64.toUInt64).toInt64) &&& (6148914691236517205 : Int64))) = (own_N a / 2 &&& 6148914691236517205) := by
      rw [own_N_and, own_N_shr a (k := 1) (by decide) (by decide)]; rfl
    have q2 : (own_N a / 2 &&& 6148914691236517205) ≤ own_N a / 2 := Nat.and_le_left
    rw [own_N_sub (by rw [q]; omega), q]
  have e2 : own_N (own_bc2 (own_bc1 a)) = own_f2 (own_N (own_bc1 a)) := by
    unfold own_f2
    unfold own_bc2
    have q : own_N ((((own_bc1 a).toUInt64 >>> ((2 : Int32) &&& 0x3f).toInt64.toUInt64).toInt64) &&& (3689348814741910323 : Int64)) = (own_N (own_bc1 a) / 4 &&& 3689348814741910323) := by
      rw [own_N_and, own_N_shr _ (k := 2) (by decide) (by decide)]; rfl
    have q2 : own_N ((own_bc1 a) &&& (3689348814741910323 : Int64)) = (own_N (own_bc1 a) &&& 3689348814741910323) := by rw [own_N_and]; rfl
    have q3 : (own_N (own_bc1 a) / 4 &&& 3689348814741910323) ≤ 3689348814741910323 := Nat.and_le_right
    have q4 : (own_N (own_bc1 a) &&& 3689348814741910323) ≤ 3689348814741910323 := Nat.and_le_right
    rw [own_N_add (by rw [q, q2]; omega), q, q2]
  have b2 : own_N (own_bc2 (own_bc1 a)) ≤ 7378697629483820646 := by
    have q3 : (own_N (own_bc1 a) / 4 &&& 3689348814741910323) ≤ 3689348814741910323 := Nat.and_le_right
    have q4 : (own_N (own_bc1 a) &&& 3689348814741910323) ≤ 3689348814741910323 := Nat.and_le_right
    rw [e2]; unfold own_f2; omega
  have e3 : own_N (own_bc3 (own_bc2 (own_bc1 a))) = own_f3 (own_N (own_bc2 (own_bc1 a))) := by
    unfold own_f3
    generalize own_bc2 (own_bc1 a) = y at *
    unfold own_bc3
    have q := own_N_shr y (n := ((4 : Int32) &&& 0x3f).toInt64.toUInt64) (k := 4) (by decide) (by decide)
    rw [own_N_and, own_N_add (by rw [q]; omega), q]; rfl
  have b3 : own_N (own_bc3 (own_bc2 (own_bc1 a))) ≤ 1085102592571150095 := by rw [e3]; exact Nat.and_le_right
  rw [e1] at e2; rw [e2] at e3
  have hF : own_F (own_N a) = (own_N (own_bc6 (own_bc5 (own_bc4 (own_bc3 (own_bc2 (own_bc1 a))))))) % 128 := by
    unfold own_F
    rw [← e3]
    generalize own_bc3 (own_bc2 (own_bc1 a)) = y at *
    have q := own_N_shr y (n := ((8 : Int32) &&& 0x3f).toInt64.toUInt64) (k := 8) (by decide) (by decide)
    have e4 : own_N (own_bc4 y) = own_f4 (own_N y) := by unfold own_bc4 own_f4; rw [own_N_add (by rw [q]; omega), q]
    have q5 := own_N_shr (own_bc4 y) (n := ((16 : Int32) &&& 0x3f).toInt64.toUInt64) (k := 16) (by decide) (by decide)
    have e5 : own_N (own_bc5 (own_bc4 y)) = own_f5 (own_N (own_bc4 y)) := by unfold own_bc5; rw [own_N_add (by rw [q5, e4]; unfold own_f4; omega), q5]; rfl
    have q6 := own_N_shr (own_bc5 (own_bc4 y)) (n := ((32 : Int32) &&& 0x3f).toInt64.toUInt64) (k := 32) (by decide) (by decide)
    have e6 : own_N (own_bc6 (own_bc5 (own_bc4 y))) = own_f6 (own_N (own_bc5 (own_bc4 y))) := by unfold own_bc6; rw [own_N_add (by rw [q6, e5, e4]; unfold own_f5 own_f4; omega), q6]; rfl
    rw [e6, e5, e4]
  rw [hF]
  unfold own_bc
  generalize own_bc6 (own_bc5 (own_bc4 (own_bc3 (own_bc2 (own_bc1 a))))) = y
  have h1 := c_mask y.toInt32 127 7 (by decide) (by decide)
  have h2 := c_l2i y
  have h3 := own_N_int y
  split at h3 <;> omega
theorem own_bc_one {a : Int64} (h : own_bc a = 1) : ∃ k, k < 64 ∧ own_N a = 2 ^ k := by
  have h1 := own_bc_F a
  rw [h] at h1
  exact own_F_one _ (own_N_lt a) (by have : (1 : Int32).toInt = 1 := by decide
                                     omega)
theorem own_bc_pow : ∀ k : Fin 64, own_bc (Int64.ofNat (2 ^ k.1)) = 1 := by decide +kernel
theorem own_N_pow : ∀ k : Fin 64, own_N (Int64.ofNat (2 ^ k.1)) = 2 ^ k.1 := by decide +kernel
/-! numberOfLeadingZeros -/
def own_inv (i x n : Int32) (s w : Nat) : Prop := 0 < i.toInt ∧ x.toInt = i.toInt / (2 : Int) ^ s ∧ 1 ≤ x.toInt ∧ x.toInt < (2 : Int) ^ w ∧ n.toInt = 31 - (s : Int)
theorem own_inv0 {i : Int32} (h : (0 : Int32) < i) : own_inv i i 31 0 32 := by
  have h1 := Int32.lt_iff_toInt_lt.mp h
  have h0 : (0 : Int32).toInt = 0 := by decide
  have h2 := rng32 i
  refine ⟨by omega, by simp, by omega, by omega, by decide⟩
theorem own_inv_lt {i x n lim : Int32} {s w v : Nat} (V : own_inv i x n s w) (hl : lim.toInt = (2 : Int) ^ v) (h : x < lim) : own_inv i x n s v := by
  obtain ⟨a, b, c, d, f⟩ := V
  have h1 := Int32.lt_iff_toInt_lt.mp h
  rw [hl] at h1
  exact ⟨a, b, c, h1, f⟩
theorem own_inv_ge {i x n n' lim sh : Int32} {s w v : Nat} (V : own_inv i x n s w) (hl : lim.toInt = (2 : Int) ^ v) (hw : w = v + v) (hv : 0 < v) (hsh : sh.toBitVec.toNat % 32 = v) (hn : n'.toInt = 31 - ((s + v : Nat) : Int)) (h : ¬ x < lim) : own_inv i ((x.toUInt32 >>> (sh &&& 31).toUInt32).toInt32) n' (s + v) v := by
  obtain ⟨a, b, c, d, f⟩ := V
  have h1 : ¬ x.toInt < lim.toInt := fun q => h (Int32.lt_iff_toInt_lt.mpr q)
  rw [hl] at h1
  have h2 := c_iushr x sh v hsh hv
  have h3 := rng32 x
  have hm : x.toInt % 4294967296 = x.toInt := by omega
  rw [hm] at h2
  have hp : (0 : Int) < 2 ^ v := Int.pow_pos (by decide)
  have hc : ((2 ^ v : Nat) : Int) = 2 ^ v := by simp
  rw [hc] at h2
  refine ⟨a, ?_, ?_, ?_, hn⟩
  · rw [h2, b, Int.pow_add, Int.ediv_ediv_of_nonneg (Int.le_of_lt (Int.pow_pos (by decide)))]
  · rw [h2]; exact Int.le_ediv_of_mul_le hp (by omega)
  · rw [h2]; subst hw; rw [Int.pow_add] at d; exact Int.ediv_lt_of_lt_mul hp d
theorem own_inv_end {i x n : Int32} {s : Nat} (V : own_inv i x n s 2) (hs : s ≤ 30) : ∃ j : Nat, j ≤ 31 ∧ (n - ((x.toUInt32 >>> ((1 : Int32) &&& 31).toUInt32).toInt32)).toInt = 31 - (j : Int) ∧ 2 ^ j ≤ own_n i ∧ own_n i < 2 ^ (j + 1) := by
  obtain ⟨a, b, c, d, f⟩ := V
  have h2 := c_iushr x 1 1 (by decide) (by decide)
  have h4 := c_isub n ((x.toUInt32 >>> ((1 : Int32) &&& 31).toUInt32).toInt32)
  have h5 := rng32 (n - ((x.toUInt32 >>> ((1 : Int32) &&& 31).toUInt32).toInt32))
  have h6 := own_n_int i
  have hi := rng32 i
  have hlt := own_n_lt i
  have hn : (own_n i : Int) = i.toInt := by split at h6 <;> omega
  have hp : (0 : Int) < 2 ^ s := Int.pow_pos (by decide)
  have hd : i.toInt = 2 ^ s * (i.toInt / 2 ^ s) + i.toInt % 2 ^ s := (Int.mul_ediv_add_emod _ _).symm
  have hm1 := Int.emod_nonneg i.toInt (Int.ne_of_gt hp)
  have hm2 := Int.emod_lt_of_pos i.toInt hp
  rw [← b] at hd
  by_cases q : x.toInt < 2
  · have hx1 : x.toInt = 1 := by omega
    rw [hx1] at hd
    refine ⟨s, by omega, by omega, ?_, ?_⟩
    · have : ((2 ^ s : Nat) : Int) ≤ own_n i := by rw [hn]; simp; omega
      omega
    · have : (own_n i : Int) < ((2 ^ (s + 1) : Nat) : Int) := by rw [hn]; simp [Int.pow_succ]; omega
      omega
  · have hx1 : x.toInt = 2 ∨ x.toInt = 3 := by omega
    refine ⟨s + 1, by omega, by omega, ?_, ?_⟩
    · have : ((2 ^ (s + 1) : Nat) : Int) ≤ own_n i := by rw [hn]; simp [Int.pow_succ]; rcases hx1 with e | e <;> rw [e] at hd <;> omega
      omega
    · have : (own_n i : Int) < ((2 ^ (s + 1 + 1) : Nat) : Int) := by rw [hn]; simp [Int.pow_succ]; rcases hx1 with e | e <;> rw [e] at hd <;> omega
      omega
def own_z32 (i z : Int32) : Prop := ∃ j : Nat, j ≤ 31 ∧ z.toInt = 31 - (j : Int) ∧ 2 ^ j ≤ own_n i ∧ own_n i < 2 ^ (j + 1)
theorem own_z32_neg {i : Int32} (h : ¬ (0 : Int32) < i) (h0 : ¬ i = 0) : own_z32 i 0 := by
  refine ⟨31, by omega, by decide, ?_, own_n_lt i⟩
  have h1 : ¬ (0 : Int32).toInt < i.toInt := fun q => h (Int32.lt_iff_toInt_lt.mpr q)
  have h2 : (0 : Int32).toInt = 0 := by decide
  have h3 : i.toInt ≠ 0 := fun q => h0 (Int32.toInt_inj.mp (by rw [q, h2]))
  have h6 := own_n_int i
  split at h6 <;> omega
def own_z64 (a : Int64) (z : Int32) : Prop := ∃ j : Nat, j ≤ 63 ∧ z.toInt = 63 - (j : Int) ∧ 2 ^ j ≤ own_N a ∧ own_N a < 2 ^ (j + 1)
def own_hi (a : Int64) : Int32 := (((a.toUInt64 >>> ((32 : Int32) &&& 0x3f).toInt64.toUInt64).toInt64).toInt32)
theorem own_n_l2i (a : Int64) : own_n a.toInt32 = own_N a % 2 ^ 32 := by
  have h1 := own_n_int a.toInt32
  have h2 := own_N_int a
  have h3 := c_l2i a
  have h4 := own_n_lt a.toInt32
  have h5 := own_N_lt a
  split at h1 <;> split at h2 <;> omega
theorem own_n_hi (a : Int64) : own_n (own_hi a) = own_N a / 2 ^ 32 := by
  unfold own_hi
  rw [own_n_l2i, own_N_shr a (k := 32) (by decide) (by decide)]
  have := own_N_lt a
  omega
theorem own_n_ne {i : Int32} (h : ¬ i = 0) : own_n i ≠ 0 := fun q => h (Int32.toBitVec_inj.mp (BitVec.eq_of_toNat_eq q))
theorem own_lo_ne {a : Int64} (h : own_hi a = 0) (ha : own_N a ≠ 0) : ¬ a.toInt32 = 0 := fun q => by
  have h1 := own_n_hi a
  rw [h] at h1
  have h2 := own_n_l2i a
  rw [q] at h2
  have h3 : own_n 0 = 0 := by decide
  omega
theorem own_z64_lo {a : Int64} {z : Int32} (h : own_hi a = 0) (V : own_z32 a.toInt32 z) : own_z64 a ((32 : Int32) + z) := by
  obtain ⟨j, h1, h2, h3, h4⟩ := V
  have g1 := own_n_hi a
  rw [h] at g1
  have g2 := own_n_l2i a
  have g3 : own_n 0 = 0 := by decide
  have e : own_n a.toInt32 = own_N a := by omega
  rw [e] at h3 h4
  have h5 := c_iadd 32 z
  have h6 := rng32 (32 + z)
  have k : (32 : Int32).toInt = 32 := by decide
  exact ⟨j, by omega, by omega, h3, h4⟩
theorem own_z64_hi {a : Int64} {z : Int32} (V : own_z32 (own_hi a) z) : own_z64 a z := by
  obtain ⟨j, h1, h2, h3, h4⟩ := V
  rw [own_n_hi] at h3 h4
  have p : 2 ^ (j + 32) = 2 ^ j * 2 ^ 32 := Nat.pow_add ..
  have p2 : 2 ^ (j + 32 + 1) = 2 ^ (j + 1) * 2 ^ 32 := by rw [← Nat.pow_add]
  exact ⟨j + 32, by omega, by omega, by omega, by omega⟩
def own_hob (a : Int64) (z : Int32) : Int64 := (a &&& (((-9223372036854775808 : Int64).toUInt64 >>> (z &&& 0x3f).toInt64.toUInt64).toInt64))
theorem own_sh : ∀ j : Fin 64, own_N (((-9223372036854775808 : Int64).toUInt64 >>> ((Int32.ofNat (63 - j.1)) &&& 0x3f).toInt64.toUInt64).toInt64) = 2 ^ j.1 ∧ (Int32.ofNat (63 - j.1)).toInt = 63 - (j.1 : Int) := by decide +kernel
theorem own_hob_eq {a : Int64} {z : Int32} (V : own_z64 a z) : ∃ j, j ≤ 63 ∧ own_N (own_hob a z) = 2 ^ j ∧ 2 ^ j ≤ own_N a ∧ own_N a < 2 ^ (j + 1) := by
  obtain ⟨j, h1, h2, h3, h4⟩ := V
  have h := own_sh ⟨j, by omega⟩
  simp only at h
  have e : z = Int32.ofNat (63 - j) := Int32.toInt_inj.mp (by rw [h2, h.2])
  refine ⟨j, h1, ?_, h3, h4⟩
  unfold own_hob
  rw [own_N_and, e, h.1]
  have ht : (own_N a).testBit j = true := by
    rw [Nat.testBit_eq_decide_div_mod_eq]
    have : own_N a / 2 ^ j = 1 := by
      apply Nat.div_eq_of_lt_le
      · omega
      · rw [Nat.pow_succ] at h4; omega
    rw [this]; decide
  apply Nat.eq_of_testBit_eq
  intro i
  rw [Nat.testBit_and, Nat.testBit_two_pow]
  by_cases q : j = i
  · subst q; simp [ht]
  · simp [q]
/-! the root -/
def own_rootP (n r : Int64) : Prop := (0 : Int64) < r ∧ (r &&& (r - (1 : Int64))) = (0 : Int64) ∧ ((n - (1 : Int64)) >>> ((4 : Int32) &&& 0x3f).toInt64) < r ∧ (r = (1 : Int64) ∨ ¬ ((n - (1 : Int64)) >>> ((3 : Int32) &&& 0x3f).toInt64) < r)
def own_leaf (n : Int64) : Int64 := (((n - (1 : Int64)) / (16 : Int64)) + (1 : Int64))
theorem own_n_of {x : Int64} {s : Int32} {n : Int64} (hn : n = (((x &&& (9223372036854775807 : Int64)).toUInt64 >>> ((s &&& (63 : Int32)) &&& 0x3f).toInt64.toUInt64).toInt64)) : 0 ≤ n.toInt := by
  have h1 : own_N (x &&& (9223372036854775807 : Int64)) < 2 ^ 63 := by
    rw [own_N_and]
    have : own_N x &&& own_N 9223372036854775807 ≤ own_N 9223372036854775807 := Nat.and_le_right
    have k : own_N 9223372036854775807 = 9223372036854775807 := by decide
    omega
  have h2 : own_N n ≤ own_N (x &&& (9223372036854775807 : Int64)) := by
    rw [hn]
    unfold own_N
    simp only [UInt64.toBitVec_toInt64, UInt64.toBitVec_shiftRight, Int64.toBitVec_toUInt64]
    rw [BitVec.ushiftRight_eq', BitVec.toNat_ushiftRight, Nat.shiftRight_eq_div_pow]
    exact Nat.div_le_self _ _
  have h3 := own_N_int n
  split at h3 <;> omega
theorem own_leaf_eq {n : Int64} (h : 0 ≤ n.toInt) : (n.toInt = 0 ∧ (own_leaf n).toInt = 1) ∨ (1 ≤ n.toInt ∧ (own_leaf n).toInt = (n.toInt - 1) / 16 + 1) := by
  have h1 := c_lsub n 1
  have h2 := rng64 (n - 1)
  have k1 : (1 : Int64).toInt = 1 := by decide
  have hr := rng64 n
  have e1 : (n - 1).toInt = n.toInt - 1 := by omega
  have h3 := c_ldiv (n - 1) 16 16 (by decide) (by decide)
  have h4 := c_ladd ((n - 1) / 16) 1
  have h5 := rng64 ((n - 1) / 16 + 1)
  rw [e1] at h3
  unfold own_leaf
  by_cases q : n.toInt = 0
  · left
    have := h3.2 (by omega)
    exact ⟨q, by omega⟩
  · right
    have := h3.1 (by omega)
    exact ⟨by omega, by omega⟩
theorem own_pow_and (k : Nat) (hk : k < 63) (r : Int64) (hr : own_N r = 2 ^ k) : (r &&& (r - (1 : Int64))) = (0 : Int64) := by
  apply own_N_inj
  have hp : 0 < 2 ^ k := Nat.pow_pos (by decide)
  have k1 : own_N 1 = 1 := by decide
  rw [own_N_and, own_N_sub (by rw [hr, k1]; exact hp), hr, k1, Nat.and_two_pow_sub_one_eq_mod]
  have : own_N 0 = 0 := by decide
  rw [this, Nat.mod_self]
theorem own_fin {n r : Int64} (h : 0 ≤ n.toInt) (k : Nat) (hk : k ≤ 59) (hr : own_N r = 2 ^ k) (h1 : (own_leaf n).toInt ≤ 2 ^ k) (h2 : k = 0 ∨ 2 ^ k < 2 * (own_leaf n).toInt) : own_rootP n r := by
  have hp : 2 ^ k ≤ 2 ^ 59 := Nat.pow_le_pow_right (by decide) hk
  have hri := own_N_int r
  have hp0 : 0 < 2 ^ k := Nat.pow_pos (by decide)
  have hc : ((2 ^ k : Nat) : Int) = 2 ^ k := by simp
  have hri' : r.toInt = 2 ^ k := by rw [hr] at hri; rw [← hc]; split at hri <;> omega
  have g1 := c_lsub n 1
  have g2 := rng64 (n - 1)
  have k1 : (1 : Int64).toInt = 1 := by decide
  have k0 : (0 : Int64).toInt = 0 := by decide
  have hrn := rng64 n
  have e1 : (n - 1).toInt = n.toInt - 1 := by omega
  have s4 := c_lshr (n - 1) 4 4 (by decide)
  have s3 := c_lshr (n - 1) 3 3 (by decide)
  rw [e1] at s3 s4
  have hL := own_leaf_eq h
  rw [← hc] at hri' h1 h2
  refine ⟨?_, own_pow_and k (by omega) r hr, ?_, ?_⟩
  · rw [Int64.lt_iff_toInt_lt, hri', k0]; omega
  · rw [Int64.lt_iff_toInt_lt, s4, hri']
    have : ((2 ^ 4 : Nat) : Int) = 16 := by decide
    rw [this]
    omega
  · by_cases q : k = 0
    · left
      apply Int64.toInt_inj.mp
      rw [hri', k1, q]; rfl
    · right
      rw [Int64.lt_iff_toInt_lt, s3, hri']
      have e3 : ((2 ^ 3 : Nat) : Int) = 8 := by decide
      rw [e3]
      obtain ⟨k', rfl⟩ : ∃ k', k = k' + 1 := ⟨k - 1, by omega⟩
      rw [Nat.pow_succ] at *
      omega
theorem own_leaf_N {n : Int64} (h : 0 ≤ n.toInt) : own_N (own_leaf n) ≤ 2 ^ 59 ∧ (own_leaf n).toInt = (own_N (own_leaf n) : Int) := by
  have hL := own_leaf_eq h
  have hrn := rng64 n
  have hi := own_N_int (own_leaf n)
  have hlt := own_N_lt (own_leaf n)
  split at hi <;> omega
theorem own_root_one {n : Int64} (h : 0 ≤ n.toInt) (hb : own_bc (own_leaf n) = 1) : own_rootP n (own_leaf n) := by
  obtain ⟨hlt, hi⟩ := own_leaf_N h
  obtain ⟨k, hk, e⟩ := own_bc_one hb
  have hc : ((2 ^ k : Nat) : Int) = 2 ^ k := by simp
  have hk2 : k ≤ 59 := by
    rw [e] at hlt
    exact (Nat.pow_le_pow_iff_right (by decide)).mp hlt
  have hli : (own_leaf n).toInt = 2 ^ k := by rw [← hc, ← e]; exact hi
  refine own_fin h k hk2 e (by omega) ?_
  rw [hli, ← hc]
  have : 0 < 2 ^ k := Nat.pow_pos (by decide)
  omega
theorem own_root_two {n : Int64} {z : Int32} (h : 0 ≤ n.toInt) (hb : ¬ own_bc (own_leaf n) = 1) (hz : own_z64 (own_leaf n) z) : own_rootP n ((own_hob (own_leaf n) z) * (2 : Int64)) := by
  obtain ⟨j, hj, e, h3, h4⟩ := own_hob_eq hz
  obtain ⟨hlt, hi⟩ := own_leaf_N h
  have hne : own_N (own_leaf n) ≠ 2 ^ j := fun q => by
    have a1 := own_bc_pow ⟨j, by omega⟩
    have a2 := own_N_pow ⟨j, by omega⟩
    simp only at a1 a2
    rw [← a2] at q
    rw [own_N_inj q] at hb
    exact hb a1
  have hj2 : j < 59 := by
    have : 2 ^ j < 2 ^ 59 := by omega
    exact (Nat.pow_lt_pow_iff_right (by decide)).mp this
  have hp : 2 ^ j ≤ 2 ^ 58 := Nat.pow_le_pow_right (by decide) (by omega)
  have hr : own_N ((own_hob (own_leaf n) z) * (2 : Int64)) = 2 ^ (j + 1) := by
    have e2 : (own_hob (own_leaf n) z) * (2 : Int64) = (own_hob (own_leaf n) z) + (own_hob (own_leaf n) z) := by
      apply Int64.toBitVec_inj.mp
      rw [Int64.toBitVec_mul, Int64.toBitVec_add]
      exact BitVec.mul_two
    rw [e2, own_N_add (by rw [e]; omega), e, Nat.pow_succ]; omega
  have hc : ((2 ^ (j + 1) : Nat) : Int) = 2 ^ (j + 1) := by simp
  refine own_fin h (j + 1) (by omega) hr ?_ (Or.inr ?_)
  · rw [← hc, hi]; omega
  · rw [← hc, hi]; rw [Nat.pow_succ]; omega
theorem own_leaf_ne {n : Int64} (h : 0 ≤ n.toInt) : own_N (own_leaf n) ≠ 0 := by
  have hL := own_leaf_eq h
  have hi := own_N_int (own_leaf n)
  split at hi <;> omega
theorem pn_0 : plainName "com/example/people_in_groups/peopleingroups/model/CountTree" = true := by first | (simp [plainName, overriddenIn]; done) | decide +kernel
theorem pn_1 : plainName "java/lang/Long" = true := by first | (simp [plainName, overriddenIn]; done) | decide +kernel
theorem pn_2 : plainName "java/lang/Integer" = true := by first | (simp [plainName, overriddenIn]; done) | decide +kernel
theorem pn_3 : plainName "com/example/people_in_groups/peopleingroups/model/CountTreeRootPinLaw" = true := by first | (simp [plainName, overriddenIn]; done) | decide +kernel
theorem pd_0 : parseMethodDescriptor "(J)J" = some ⟨[.long], some .long⟩ := by decide +kernel
theorem pd_1 : parseMethodDescriptor "(I)I" = some ⟨[.int], some .int⟩ := by decide +kernel
theorem pd_2 : parseMethodDescriptor "(J)I" = some ⟨[.long], some .int⟩ := by decide +kernel
theorem d1_0 : decode prog_1_method_5_code 0 = .ok (.lload_n 0, 1) := by decide +kernel
theorem d1_1 : decode prog_1_method_5_code 1 = .ok (.invokestatic 15, 3) := by decide +kernel
theorem d1_4 : decode prog_1_method_5_code 4 = .ok (.lstore_n 2, 1) := by decide +kernel
theorem d1_5 : decode prog_1_method_5_code 5 = .ok (.lload_n 2, 1) := by decide +kernel
theorem d1_6 : decode prog_1_method_5_code 6 = .ok (.invokestatic 18, 3) := by decide +kernel
theorem d1_9 : decode prog_1_method_5_code 9 = .ok (.iconst 1, 1) := by decide +kernel
theorem d1_10 : decode prog_1_method_5_code 10 = .ok (.if_icmp .ne 7, 3) := by decide +kernel
theorem d1_13 : decode prog_1_method_5_code 13 = .ok (.lload_n 2, 1) := by decide +kernel
theorem d1_14 : decode prog_1_method_5_code 14 = .ok (.goto 11, 3) := by decide +kernel
theorem d1_17 : decode prog_1_method_5_code 17 = .ok (.lload_n 2, 1) := by decide +kernel
theorem d1_18 : decode prog_1_method_5_code 18 = .ok (.invokestatic 24, 3) := by decide +kernel
theorem d1_21 : decode prog_1_method_5_code 21 = .ok (.ldc2_w 27, 3) := by decide +kernel
theorem d1_24 : decode prog_1_method_5_code 24 = .ok (.lmul, 1) := by decide +kernel
theorem d1_25 : decode prog_1_method_5_code 25 = .ok (.lreturn, 1) := by decide +kernel
theorem d2_0 : decode prog_1_method_4_code 0 = .ok (.lload_n 0, 1) := by decide +kernel
theorem d2_1 : decode prog_1_method_4_code 1 = .ok (.lconst 1, 1) := by decide +kernel
theorem d2_2 : decode prog_1_method_4_code 2 = .ok (.lsub, 1) := by decide +kernel
theorem d2_3 : decode prog_1_method_4_code 3 = .ok (.invokestatic 11, 3) := by decide +kernel
theorem d2_6 : decode prog_1_method_4_code 6 = .ok (.lreturn, 1) := by decide +kernel
theorem d3_0 : decode prog_1_method_2_code 0 = .ok (.lload_n 0, 1) := by decide +kernel
theorem d3_1 : decode prog_1_method_2_code 1 = .ok (.ldc2_w 9, 3) := by decide +kernel
theorem d3_4 : decode prog_1_method_2_code 4 = .ok (.ldiv, 1) := by decide +kernel
theorem d3_5 : decode prog_1_method_2_code 5 = .ok (.lconst 1, 1) := by decide +kernel
theorem d3_6 : decode prog_1_method_2_code 6 = .ok (.ladd, 1) := by decide +kernel
theorem d3_7 : decode prog_1_method_2_code 7 = .ok (.lreturn, 1) := by decide +kernel
theorem d4_0 : decode jdk_35_method_50_code 0 = .ok (.lload_n 0, 1) := by decide +kernel
theorem d4_1 : decode jdk_35_method_50_code 1 = .ok (.lload_n 0, 1) := by decide +kernel
theorem d4_2 : decode jdk_35_method_50_code 2 = .ok (.iconst 1, 1) := by decide +kernel
theorem d4_3 : decode jdk_35_method_50_code 3 = .ok (.lushr, 1) := by decide +kernel
theorem d4_4 : decode jdk_35_method_50_code 4 = .ok (.ldc2_w 314, 3) := by decide +kernel
theorem d4_7 : decode jdk_35_method_50_code 7 = .ok (.land, 1) := by decide +kernel
theorem d4_8 : decode jdk_35_method_50_code 8 = .ok (.lsub, 1) := by decide +kernel
theorem d4_9 : decode jdk_35_method_50_code 9 = .ok (.lstore_n 0, 1) := by decide +kernel
theorem d4_10 : decode jdk_35_method_50_code 10 = .ok (.lload_n 0, 1) := by decide +kernel
theorem d4_11 : decode jdk_35_method_50_code 11 = .ok (.ldc2_w 316, 3) := by decide +kernel
theorem d4_14 : decode jdk_35_method_50_code 14 = .ok (.land, 1) := by decide +kernel
theorem d4_15 : decode jdk_35_method_50_code 15 = .ok (.lload_n 0, 1) := by decide +kernel
theorem d4_16 : decode jdk_35_method_50_code 16 = .ok (.iconst 2, 1) := by decide +kernel
theorem d4_17 : decode jdk_35_method_50_code 17 = .ok (.lushr, 1) := by decide +kernel
theorem d4_18 : decode jdk_35_method_50_code 18 = .ok (.ldc2_w 316, 3) := by decide +kernel
theorem d4_21 : decode jdk_35_method_50_code 21 = .ok (.land, 1) := by decide +kernel
theorem d4_22 : decode jdk_35_method_50_code 22 = .ok (.ladd, 1) := by decide +kernel
theorem d4_23 : decode jdk_35_method_50_code 23 = .ok (.lstore_n 0, 1) := by decide +kernel
theorem d4_24 : decode jdk_35_method_50_code 24 = .ok (.lload_n 0, 1) := by decide +kernel
theorem d4_25 : decode jdk_35_method_50_code 25 = .ok (.lload_n 0, 1) := by decide +kernel
theorem d4_26 : decode jdk_35_method_50_code 26 = .ok (.iconst 4, 1) := by decide +kernel
theorem d4_27 : decode jdk_35_method_50_code 27 = .ok (.lushr, 1) := by decide +kernel
theorem d4_28 : decode jdk_35_method_50_code 28 = .ok (.ladd, 1) := by decide +kernel
theorem d4_29 : decode jdk_35_method_50_code 29 = .ok (.ldc2_w 318, 3) := by decide +kernel
theorem d4_32 : decode jdk_35_method_50_code 32 = .ok (.land, 1) := by decide +kernel
theorem d4_33 : decode jdk_35_method_50_code 33 = .ok (.lstore_n 0, 1) := by decide +kernel
theorem d4_34 : decode jdk_35_method_50_code 34 = .ok (.lload_n 0, 1) := by decide +kernel
theorem d4_35 : decode jdk_35_method_50_code 35 = .ok (.lload_n 0, 1) := by decide +kernel
theorem d4_36 : decode jdk_35_method_50_code 36 = .ok (.bipush 8, 2) := by decide +kernel
theorem d4_38 : decode jdk_35_method_50_code 38 = .ok (.lushr, 1) := by decide +kernel
theorem d4_39 : decode jdk_35_method_50_code 39 = .ok (.ladd, 1) := by decide +kernel
theorem d4_40 : decode jdk_35_method_50_code 40 = .ok (.lstore_n 0, 1) := by decide +kernel
theorem d4_41 : decode jdk_35_method_50_code 41 = .ok (.lload_n 0, 1) := by decide +kernel
theorem d4_42 : decode jdk_35_method_50_code 42 = .ok (.lload_n 0, 1) := by decide +kernel
theorem d4_43 : decode jdk_35_method_50_code 43 = .ok (.bipush 16, 2) := by decide +kernel
theorem d4_45 : decode jdk_35_method_50_code 45 = .ok (.lushr, 1) := by decide +kernel
theorem d4_46 : decode jdk_35_method_50_code 46 = .ok (.ladd, 1) := by decide +kernel
theorem d4_47 : decode jdk_35_method_50_code 47 = .ok (.lstore_n 0, 1) := by decide +kernel
theorem d4_48 : decode jdk_35_method_50_code 48 = .ok (.lload_n 0, 1) := by decide +kernel
theorem d4_49 : decode jdk_35_method_50_code 49 = .ok (.lload_n 0, 1) := by decide +kernel
theorem d4_50 : decode jdk_35_method_50_code 50 = .ok (.bipush 32, 2) := by decide +kernel
theorem d4_52 : decode jdk_35_method_50_code 52 = .ok (.lushr, 1) := by decide +kernel
theorem d4_53 : decode jdk_35_method_50_code 53 = .ok (.ladd, 1) := by decide +kernel
theorem d4_54 : decode jdk_35_method_50_code 54 = .ok (.lstore_n 0, 1) := by decide +kernel
theorem d4_55 : decode jdk_35_method_50_code 55 = .ok (.lload_n 0, 1) := by decide +kernel
theorem d4_56 : decode jdk_35_method_50_code 56 = .ok (.l2i, 1) := by decide +kernel
theorem d4_57 : decode jdk_35_method_50_code 57 = .ok (.bipush 127, 2) := by decide +kernel
theorem d4_59 : decode jdk_35_method_50_code 59 = .ok (.iand, 1) := by decide +kernel
theorem d4_60 : decode jdk_35_method_50_code 60 = .ok (.ireturn, 1) := by decide +kernel
theorem d5_0 : decode jdk_35_method_46_code 0 = .ok (.lload_n 0, 1) := by decide +kernel
theorem d5_1 : decode jdk_35_method_46_code 1 = .ok (.ldc2_w 168, 3) := by decide +kernel
theorem d5_4 : decode jdk_35_method_46_code 4 = .ok (.lload_n 0, 1) := by decide +kernel
theorem d5_5 : decode jdk_35_method_46_code 5 = .ok (.invokestatic 98, 3) := by decide +kernel
theorem d5_8 : decode jdk_35_method_46_code 8 = .ok (.lushr, 1) := by decide +kernel
theorem d5_9 : decode jdk_35_method_46_code 9 = .ok (.land, 1) := by decide +kernel
theorem d5_10 : decode jdk_35_method_46_code 10 = .ok (.lreturn, 1) := by decide +kernel
theorem d6_0 : decode jdk_35_method_48_code 0 = .ok (.lload_n 0, 1) := by decide +kernel
theorem d6_1 : decode jdk_35_method_48_code 1 = .ok (.bipush 32, 2) := by decide +kernel
theorem d6_3 : decode jdk_35_method_48_code 3 = .ok (.lushr, 1) := by decide +kernel
theorem d6_4 : decode jdk_35_method_48_code 4 = .ok (.l2i, 1) := by decide +kernel
theorem d6_5 : decode jdk_35_method_48_code 5 = .ok (.istore_n 2, 1) := by decide +kernel
theorem d6_6 : decode jdk_35_method_48_code 6 = .ok (.iload_n 2, 1) := by decide +kernel
theorem d6_7 : decode jdk_35_method_48_code 7 = .ok (.ifCond .ne 14, 3) := by decide +kernel
theorem d6_10 : decode jdk_35_method_48_code 10 = .ok (.bipush 32, 2) := by decide +kernel
theorem d6_12 : decode jdk_35_method_48_code 12 = .ok (.lload_n 0, 1) := by decide +kernel
theorem d6_13 : decode jdk_35_method_48_code 13 = .ok (.l2i, 1) := by decide +kernel
theorem d6_14 : decode jdk_35_method_48_code 14 = .ok (.invokestatic 308, 3) := by decide +kernel
theorem d6_17 : decode jdk_35_method_48_code 17 = .ok (.iadd, 1) := by decide +kernel
theorem d6_18 : decode jdk_35_method_48_code 18 = .ok (.goto 7, 3) := by decide +kernel
theorem d6_21 : decode jdk_35_method_48_code 21 = .ok (.iload_n 2, 1) := by decide +kernel
theorem d6_22 : decode jdk_35_method_48_code 22 = .ok (.invokestatic 308, 3) := by decide +kernel
theorem d6_25 : decode jdk_35_method_48_code 25 = .ok (.ireturn, 1) := by decide +kernel
theorem d7_0 : decode jdk_33_method_47_code 0 = .ok (.iload_n 0, 1) := by decide +kernel
theorem d7_1 : decode jdk_33_method_47_code 1 = .ok (.ifCond .gt 14, 3) := by decide +kernel
theorem d7_4 : decode jdk_33_method_47_code 4 = .ok (.iload_n 0, 1) := by decide +kernel
theorem d7_5 : decode jdk_33_method_47_code 5 = .ok (.ifCond .ne 8, 3) := by decide +kernel
theorem d7_13 : decode jdk_33_method_47_code 13 = .ok (.iconst 0, 1) := by decide +kernel
theorem d7_14 : decode jdk_33_method_47_code 14 = .ok (.ireturn, 1) := by decide +kernel
theorem d7_15 : decode jdk_33_method_47_code 15 = .ok (.bipush 31, 2) := by decide +kernel
theorem d7_17 : decode jdk_33_method_47_code 17 = .ok (.istore_n 1, 1) := by decide +kernel
theorem d7_18 : decode jdk_33_method_47_code 18 = .ok (.iload_n 0, 1) := by decide +kernel
theorem d7_19 : decode jdk_33_method_47_code 19 = .ok (.ldc_w 264, 3) := by decide +kernel
theorem d7_22 : decode jdk_33_method_47_code 22 = .ok (.if_icmp .lt 11, 3) := by decide +kernel
theorem d7_25 : decode jdk_33_method_47_code 25 = .ok (.iinc 1 (-16), 3) := by decide +kernel
theorem d7_28 : decode jdk_33_method_47_code 28 = .ok (.iload_n 0, 1) := by decide +kernel
theorem d7_29 : decode jdk_33_method_47_code 29 = .ok (.bipush 16, 2) := by decide +kernel
theorem d7_31 : decode jdk_33_method_47_code 31 = .ok (.iushr, 1) := by decide +kernel
theorem d7_32 : decode jdk_33_method_47_code 32 = .ok (.istore_n 0, 1) := by decide +kernel
theorem d7_33 : decode jdk_33_method_47_code 33 = .ok (.iload_n 0, 1) := by decide +kernel
theorem d7_34 : decode jdk_33_method_47_code 34 = .ok (.sipush 256, 3) := by decide +kernel
theorem d7_37 : decode jdk_33_method_47_code 37 = .ok (.if_icmp .lt 11, 3) := by decide +kernel
theorem d7_40 : decode jdk_33_method_47_code 40 = .ok (.iinc 1 (-8), 3) := by decide +kernel
theorem d7_43 : decode jdk_33_method_47_code 43 = .ok (.iload_n 0, 1) := by decide +kernel
theorem d7_44 : decode jdk_33_method_47_code 44 = .ok (.bipush 8, 2) := by decide +kernel
theorem d7_46 : decode jdk_33_method_47_code 46 = .ok (.iushr, 1) := by decide +kernel
theorem d7_47 : decode jdk_33_method_47_code 47 = .ok (.istore_n 0, 1) := by decide +kernel
theorem d7_48 : decode jdk_33_method_47_code 48 = .ok (.iload_n 0, 1) := by decide +kernel
theorem d7_49 : decode jdk_33_method_47_code 49 = .ok (.bipush 16, 2) := by decide +kernel
theorem d7_51 : decode jdk_33_method_47_code 51 = .ok (.if_icmp .lt 10, 3) := by decide +kernel
theorem d7_54 : decode jdk_33_method_47_code 54 = .ok (.iinc 1 (-4), 3) := by decide +kernel
theorem d7_57 : decode jdk_33_method_47_code 57 = .ok (.iload_n 0, 1) := by decide +kernel
theorem d7_58 : decode jdk_33_method_47_code 58 = .ok (.iconst 4, 1) := by decide +kernel
theorem d7_59 : decode jdk_33_method_47_code 59 = .ok (.iushr, 1) := by decide +kernel
theorem d7_60 : decode jdk_33_method_47_code 60 = .ok (.istore_n 0, 1) := by decide +kernel
theorem d7_61 : decode jdk_33_method_47_code 61 = .ok (.iload_n 0, 1) := by decide +kernel
theorem d7_62 : decode jdk_33_method_47_code 62 = .ok (.iconst 4, 1) := by decide +kernel
theorem d7_63 : decode jdk_33_method_47_code 63 = .ok (.if_icmp .lt 10, 3) := by decide +kernel
theorem d7_66 : decode jdk_33_method_47_code 66 = .ok (.iinc 1 (-2), 3) := by decide +kernel
theorem d7_69 : decode jdk_33_method_47_code 69 = .ok (.iload_n 0, 1) := by decide +kernel
theorem d7_70 : decode jdk_33_method_47_code 70 = .ok (.iconst 2, 1) := by decide +kernel
theorem d7_71 : decode jdk_33_method_47_code 71 = .ok (.iushr, 1) := by decide +kernel
theorem d7_72 : decode jdk_33_method_47_code 72 = .ok (.istore_n 0, 1) := by decide +kernel
theorem d7_73 : decode jdk_33_method_47_code 73 = .ok (.iload_n 1, 1) := by decide +kernel
theorem d7_74 : decode jdk_33_method_47_code 74 = .ok (.iload_n 0, 1) := by decide +kernel
theorem d7_75 : decode jdk_33_method_47_code 75 = .ok (.iconst 1, 1) := by decide +kernel
theorem d7_76 : decode jdk_33_method_47_code 76 = .ok (.iushr, 1) := by decide +kernel
theorem d7_77 : decode jdk_33_method_47_code 77 = .ok (.isub, 1) := by decide +kernel
theorem d7_78 : decode jdk_33_method_47_code 78 = .ok (.ireturn, 1) := by decide +kernel
theorem ef_3 (m : MethodId) (x0 : Int64) : entryFrame m #[(.long x0)] 2 = mkF m 0 #[.val (.long x0), .second] [] := by first | (simp [entryFrame, mkF, argsToLocals, Value.category]; done) | rfl
set_option maxRecDepth 65536 in
set_option maxHeartbeats 40000000 in
theorem rm3 (l : Launch) (Z : State) (a0 : Array Value) (hw : ∀ d ∈ tables_1, d.before a0 Z = true) (q0 : Int64) (h0 : Heap) :
    Con l (⟨"com/example/people_in_groups/peopleingroups/model/CountTree", "leafOf", "(J)J"⟩ : MethodName) prog_1_method_2_code 2 (some .long) [] ({ frames := 0, cells := 0, slots := 0, locals := 0 } : Room) #[(.long q0)] Z h0 (fun v h L => v = some (.long ((q0 / (16 : Int64)) + (1 : Int64))) ∧ h = h0 ∧ L = []) := by
  refine Con.of (plainFor_of_name pn_0) ?_
  intro p e s m below meth c s₁ hx hZ hby hml hown hnm hret hlk X0 e0
  refine Ends.cast (ef_3 m q0) ?_
  show Ends p e below s _ _ _ s₁ (mkF m 0 #[.val (.long q0), .second] [])
  refine E.lloadN (q := 1) X0 hx (hb hby d3_0) rfl ?_
  refine E.ldc2 (q := 4) X0 hx hZ hown (hw _ (List.mem_of_getElem? (i := 11) rfl)) (hb hby d3_1) ?_
  refine E.ldiv (q := 5) X0 hx (hb hby d3_4) (by decide) ?_
  refine E.lconst (q := 6) (v := (1 : Int64)) X0 hx (hb hby d3_5) rfl ?_
  refine E.ladd (q := 7) X0 hx (hb hby d3_6) ?_
  exact Ends.retJ X0 hx hlk hret (hb hby d3_7) (by decide) (by decide) ⟨rfl, e0, rfl⟩
theorem ef_2 (m : MethodId) (x0 : Int64) : entryFrame m #[(.long x0)] 2 = mkF m 0 #[.val (.long x0), .second] [] := by first | (simp [entryFrame, mkF, argsToLocals, Value.category]; done) | rfl
set_option maxRecDepth 65536 in
set_option maxHeartbeats 40000000 in
theorem rm2 (l : Launch) (Z : State) (a0 : Array Value) (hw : ∀ d ∈ tables_1, d.before a0 Z = true) (n0 : Int64) (h0 : Heap) :
    Con l (⟨"com/example/people_in_groups/peopleingroups/model/CountTree", "lastLeaf", "(J)J"⟩ : MethodName) prog_1_method_4_code 2 (some .long) [] ({ frames := 1, cells := 0, slots := 0, locals := 13 } : Room) #[(.long n0)] Z h0 (fun v h L => v = some (.long (own_leaf n0)) ∧ h = h0 ∧ L = []) := by
  refine Con.of (plainFor_of_name pn_0) ?_
  intro p e s m below meth c s₁ hx hZ hby hml hown hnm hret hlk X0 e0
  refine Ends.cast (ef_2 m n0) ?_
  show Ends p e below s _ _ _ s₁ (mkF m 0 #[.val (.long n0), .second] [])
  refine E.lloadN (q := 1) X0 hx (hb hby d2_0) rfl ?_
  refine E.lconst (q := 2) (v := (1 : Int64)) X0 hx (hb hby d2_1) rfl ?_
  refine E.lsub (q := 3) X0 hx (hb hby d2_2) ?_
  refine Ends.callS X0 hx hZ hown (hw _ (List.mem_of_getElem? (i := 8) rfl)) (hw _ (List.mem_of_getElem? (i := 9) rfl)) (hw _ (List.mem_of_getElem? (i := 3) rfl)) (hw _ (List.mem_of_getElem? (i := 10) rfl)) (by decide) (argsL := [(.long (n0 - (1 : Int64)))]) (rest := []) e0 (rm3 l Z a0 hw (n0 - (1 : Int64)) h0) (W := 0) (by decide) (by decide) (by rw [hml]; rfl) (lenOf pd_0 rfl) (Nat.le_of_eq rfl) (hb hby d2_3) (by decide) (by decide) rfl ?_
  rintro T1 v1 L1 X1 ⟨rfl, e1, rfl⟩
  show Ends p e below s _ _ _ T1 (mkF m 6 #[.val (.long n0), .second] [(.long (((n0 - (1 : Int64)) / (16 : Int64)) + (1 : Int64)))])
  rw [List.append_nil] at X1
  exact Ends.retJ X1 hx hlk hret (hb hby d2_6) (by decide) (by decide) ⟨rfl, e1, rfl⟩
theorem ef_4 (m : MethodId) (x0 : Int64) : entryFrame m #[(.long x0)] 2 = mkF m 0 #[.val (.long x0), .second] [] := by first | (simp [entryFrame, mkF, argsToLocals, Value.category]; done) | rfl
set_option maxRecDepth 65536 in
set_option maxHeartbeats 40000000 in
theorem rm4 (l : Launch) (Z : State) (a0 : Array Value) (hw : ∀ d ∈ tables_1, d.before a0 Z = true) (b0 : Int64) (h0 : Heap) :
    Con l (⟨"java/lang/Long", "bitCount", "(J)I"⟩ : MethodName) jdk_35_method_50_code 2 (some .int) [] ({ frames := 0, cells := 0, slots := 0, locals := 0 } : Room) #[(.long b0)] Z h0 (fun v h L => v = some (.int (own_bc b0)) ∧ h = h0 ∧ L = []) := by
  refine Con.of (plainFor_of_name pn_1) ?_
  intro p e s m below meth c s₁ hx hZ hby hml hown hnm hret hlk X0 e0
  refine Ends.cast (ef_4 m b0) ?_
  show Ends p e below s _ _ _ s₁ (mkF m 0 #[.val (.long b0), .second] [])
  refine E.lloadN (q := 1) X0 hx (hb hby d4_0) rfl ?_
  refine E.lloadN (q := 2) X0 hx (hb hby d4_1) rfl ?_
  refine E.iconst (q := 3) (v := (1 : Int32)) X0 hx (hb hby d4_2) rfl ?_
  refine E.lushr (q := 4) X0 hx (hb hby d4_3) ?_
  refine E.ldc2 (q := 7) X0 hx hZ hown (hw _ (List.mem_of_getElem? (i := 16) rfl)) (hb hby d4_4) ?_
  refine E.land (q := 8) X0 hx (hb hby d4_7) ?_
  refine E.lsub (q := 9) X0 hx (hb hby d4_8) ?_
  obtain ⟨b1, hb1⟩ : ∃ z, z = (b0 - (((b0.toUInt64 >>> ((1 : Int32) &&& 0x3f).toInt64.toUInt64).toInt64) &&& (6148914691236517205 : Int64))) := ⟨_, rfl⟩
  rw [← hb1]
  refine E.lstoreN (q := 10) (l' := #[.val (.long b1), .second]) X0 hx (hb hby d4_9) rfl ?_
  refine E.lloadN (q := 11) X0 hx (hb hby d4_10) rfl ?_
  refine E.ldc2 (q := 14) X0 hx hZ hown (hw _ (List.mem_of_getElem? (i := 17) rfl)) (hb hby d4_11) ?_
  refine E.land (q := 15) X0 hx (hb hby d4_14) ?_
  refine E.lloadN (q := 16) X0 hx (hb hby d4_15) rfl ?_
  refine E.iconst (q := 17) (v := (2 : Int32)) X0 hx (hb hby d4_16) rfl ?_
  refine E.lushr (q := 18) X0 hx (hb hby d4_17) ?_
  refine E.ldc2 (q := 21) X0 hx hZ hown (hw _ (List.mem_of_getElem? (i := 17) rfl)) (hb hby d4_18) ?_
  refine E.land (q := 22) X0 hx (hb hby d4_21) ?_
  refine E.ladd (q := 23) X0 hx (hb hby d4_22) ?_
  obtain ⟨b2, hb2⟩ : ∃ z, z = ((b1 &&& (3689348814741910323 : Int64)) + (((b1.toUInt64 >>> ((2 : Int32) &&& 0x3f).toInt64.toUInt64).toInt64) &&& (3689348814741910323 : Int64))) := ⟨_, rfl⟩
  rw [← hb2]
  refine E.lstoreN (q := 24) (l' := #[.val (.long b2), .second]) X0 hx (hb hby d4_23) rfl ?_
  refine E.lloadN (q := 25) X0 hx (hb hby d4_24) rfl ?_
  refine E.lloadN (q := 26) X0 hx (hb hby d4_25) rfl ?_
  refine E.iconst (q := 27) (v := (4 : Int32)) X0 hx (hb hby d4_26) rfl ?_
  refine E.lushr (q := 28) X0 hx (hb hby d4_27) ?_
  refine E.ladd (q := 29) X0 hx (hb hby d4_28) ?_
  refine E.ldc2 (q := 32) X0 hx hZ hown (hw _ (List.mem_of_getElem? (i := 18) rfl)) (hb hby d4_29) ?_
  refine E.land (q := 33) X0 hx (hb hby d4_32) ?_
  obtain ⟨b3, hb3⟩ : ∃ z, z = ((b2 + ((b2.toUInt64 >>> ((4 : Int32) &&& 0x3f).toInt64.toUInt64).toInt64)) &&& (1085102592571150095 : Int64)) := ⟨_, rfl⟩
  rw [← hb3]
  refine E.lstoreN (q := 34) (l' := #[.val (.long b3), .second]) X0 hx (hb hby d4_33) rfl ?_
  refine E.lloadN (q := 35) X0 hx (hb hby d4_34) rfl ?_
  refine E.lloadN (q := 36) X0 hx (hb hby d4_35) rfl ?_
  refine E.bipush (q := 38) (v := (8 : Int32)) X0 hx (hb hby d4_36) rfl ?_
  refine E.lushr (q := 39) X0 hx (hb hby d4_38) ?_
  refine E.ladd (q := 40) X0 hx (hb hby d4_39) ?_
  obtain ⟨b4, hb4⟩ : ∃ z, z = (b3 + ((b3.toUInt64 >>> ((8 : Int32) &&& 0x3f).toInt64.toUInt64).toInt64)) := ⟨_, rfl⟩
  rw [← hb4]
  refine E.lstoreN (q := 41) (l' := #[.val (.long b4), .second]) X0 hx (hb hby d4_40) rfl ?_
  refine E.lloadN (q := 42) X0 hx (hb hby d4_41) rfl ?_
  refine E.lloadN (q := 43) X0 hx (hb hby d4_42) rfl ?_
  refine E.bipush (q := 45) (v := (16 : Int32)) X0 hx (hb hby d4_43) rfl ?_
  refine E.lushr (q := 46) X0 hx (hb hby d4_45) ?_
  refine E.ladd (q := 47) X0 hx (hb hby d4_46) ?_
  obtain ⟨b5, hb5⟩ : ∃ z, z = (b4 + ((b4.toUInt64 >>> ((16 : Int32) &&& 0x3f).toInt64.toUInt64).toInt64)) := ⟨_, rfl⟩
  rw [← hb5]
  refine E.lstoreN (q := 48) (l' := #[.val (.long b5), .second]) X0 hx (hb hby d4_47) rfl ?_
  refine E.lloadN (q := 49) X0 hx (hb hby d4_48) rfl ?_
  refine E.lloadN (q := 50) X0 hx (hb hby d4_49) rfl ?_
  refine E.bipush (q := 52) (v := (32 : Int32)) X0 hx (hb hby d4_50) rfl ?_
  refine E.lushr (q := 53) X0 hx (hb hby d4_52) ?_
  refine E.ladd (q := 54) X0 hx (hb hby d4_53) ?_
  obtain ⟨b6, hb6⟩ : ∃ z, z = (b5 + ((b5.toUInt64 >>> ((32 : Int32) &&& 0x3f).toInt64.toUInt64).toInt64)) := ⟨_, rfl⟩
  rw [← hb6]
  refine E.lstoreN (q := 55) (l' := #[.val (.long b6), .second]) X0 hx (hb hby d4_54) rfl ?_
  refine E.lloadN (q := 56) X0 hx (hb hby d4_55) rfl ?_
  refine E.l2i (q := 57) X0 hx (hb hby d4_56) ?_
  refine E.bipush (q := 59) (v := (127 : Int32)) X0 hx (hb hby d4_57) rfl ?_
  refine E.iand (q := 60) X0 hx (hb hby d4_59) ?_
  exact Ends.retI X0 hx hlk hret (hb hby d4_60) (by decide) (by decide) ⟨by subst hb6 hb5 hb4 hb3 hb2 hb1; rfl, e0, rfl⟩
theorem ef_7 (m : MethodId) (x0 : Int32) : entryFrame m #[(.int x0)] 2 = mkF m 0 #[.val (.int x0), .unset] [] := by first | (simp [entryFrame, mkF, argsToLocals, Value.category]; done) | rfl
set_option maxRecDepth 65536 in
set_option maxHeartbeats 40000000 in
theorem rm7 (l : Launch) (Z : State) (a0 : Array Value) (hw : ∀ d ∈ tables_1, d.before a0 Z = true) (k0 : Int32) (h0 : Heap) (hk0 : ¬ k0 = 0) :
    Con l (⟨"java/lang/Integer", "numberOfLeadingZeros", "(I)I"⟩ : MethodName) jdk_33_method_47_code 2 (some .int) [] ({ frames := 0, cells := 0, slots := 0, locals := 0 } : Room) #[(.int k0)] Z h0 (fun v h L => ∃ z, v = some (.int z) ∧ own_z32 k0 z ∧ h = h0 ∧ L = []) := by
  refine Con.of (plainFor_of_name pn_2) ?_
  intro p e s m below meth c s₁ hx hZ hby hml hown hnm hret hlk X0 e0
  refine Ends.cast (ef_7 m k0) ?_
  show Ends p e below s _ _ _ s₁ (mkF m 0 #[.val (.int k0), .unset] [])
  refine E.iloadN (q := 1) X0 hx (hb hby d7_0) rfl ?_
  by_cases hpos : (0 : Int32) < k0
  · refine E.ifY (q := 15) X0 hx (hb hby d7_1) (XT.i0_gt_t hpos) ?_
    refine E.bipush (q := 17) (v := (31 : Int32)) X0 hx (hb hby d7_15) rfl ?_
    refine E.istoreN (q := 18) (l' := #[.val (.int k0), .val (.int (31 : Int32))]) X0 hx (hb hby d7_17) rfl ?_
    refine E.iloadN (q := 19) X0 hx (hb hby d7_18) rfl ?_
    refine E.ldcW (q := 22) X0 hx hZ hown (hw _ (List.mem_of_getElem? (i := 30) rfl)) (hb hby d7_19) ?_
    by_cases hc22_0 : k0 < (65536 : Int32)
    · refine E.icmpY (q := 33) X0 hx (hb hby d7_22) (XT.ii_lt_t hc22_0) ?_
      refine E.iloadN (q := 34) X0 hx (hb hby d7_33) rfl ?_
      refine E.sipush (q := 37) (v := (256 : Int32)) X0 hx (hb hby d7_34) rfl ?_
      by_cases hc37_1 : k0 < (256 : Int32)
      · refine E.icmpY (q := 48) X0 hx (hb hby d7_37) (XT.ii_lt_t hc37_1) ?_
        refine E.iloadN (q := 49) X0 hx (hb hby d7_48) rfl ?_
        refine E.bipush (q := 51) (v := (16 : Int32)) X0 hx (hb hby d7_49) rfl ?_
        by_cases hc51_2 : k0 < (16 : Int32)
        · refine E.icmpY (q := 61) X0 hx (hb hby d7_51) (XT.ii_lt_t hc51_2) ?_
          refine E.iloadN (q := 62) X0 hx (hb hby d7_61) rfl ?_
          refine E.iconst (q := 63) (v := (4 : Int32)) X0 hx (hb hby d7_62) rfl ?_
          by_cases hc63_3 : k0 < (4 : Int32)
          · refine E.icmpY (q := 73) X0 hx (hb hby d7_63) (XT.ii_lt_t hc63_3) ?_
            refine E.iloadN (q := 74) X0 hx (hb hby d7_73) rfl ?_
            refine E.iloadN (q := 75) X0 hx (hb hby d7_74) rfl ?_
            refine E.iconst (q := 76) (v := (1 : Int32)) X0 hx (hb hby d7_75) rfl ?_
            refine E.iushr (q := 77) X0 hx (hb hby d7_76) ?_
            refine E.isub (q := 78) X0 hx (hb hby d7_77) ?_
            exact Ends.retI X0 hx hlk hret (hb hby d7_78) (by decide) (by decide) ⟨_, rfl, own_inv_end (s := 0) (own_inv_lt (v := 2) (own_inv_lt (v := 4) (own_inv_lt (v := 8) (own_inv_lt (v := 16) (own_inv0 hpos) (by decide) hc22_0) (by decide) hc37_1) (by decide) hc51_2) (by decide) hc63_3) (by decide), e0, rfl⟩
          · refine E.icmpN (q := 66) X0 hx (hb hby d7_63) (XT.ii_lt_f hc63_3) ?_
            refine E.iinc (q := 69) (v := (29 : Int32)) (l' := #[.val (.int k0), .val (.int (29 : Int32))]) X0 hx (hb hby d7_66) rfl (by decide) rfl ?_
            refine E.iloadN (q := 70) X0 hx (hb hby d7_69) rfl ?_
            refine E.iconst (q := 71) (v := (2 : Int32)) X0 hx (hb hby d7_70) rfl ?_
            refine E.iushr (q := 72) X0 hx (hb hby d7_71) ?_
            refine E.istoreN (q := 73) (l' := #[.val (.int ((k0.toUInt32 >>> ((2 : Int32) &&& 31).toUInt32).toInt32)), .val (.int (29 : Int32))]) X0 hx (hb hby d7_72) rfl ?_
            refine E.iloadN (q := 74) X0 hx (hb hby d7_73) rfl ?_
            refine E.iloadN (q := 75) X0 hx (hb hby d7_74) rfl ?_
            refine E.iconst (q := 76) (v := (1 : Int32)) X0 hx (hb hby d7_75) rfl ?_
            refine E.iushr (q := 77) X0 hx (hb hby d7_76) ?_
            refine E.isub (q := 78) X0 hx (hb hby d7_77) ?_
            exact Ends.retI X0 hx hlk hret (hb hby d7_78) (by decide) (by decide) ⟨_, rfl, own_inv_end (s := 2) (own_inv_ge (v := 2) (sh := (2 : Int32)) (n' := (29 : Int32)) (own_inv_lt (v := 4) (own_inv_lt (v := 8) (own_inv_lt (v := 16) (own_inv0 hpos) (by decide) hc22_0) (by decide) hc37_1) (by decide) hc51_2) (by decide) rfl (by decide) (by decide) (by decide) hc63_3) (by decide), e0, rfl⟩
        · refine E.icmpN (q := 54) X0 hx (hb hby d7_51) (XT.ii_lt_f hc51_2) ?_
          refine E.iinc (q := 57) (v := (27 : Int32)) (l' := #[.val (.int k0), .val (.int (27 : Int32))]) X0 hx (hb hby d7_54) rfl (by decide) rfl ?_
          refine E.iloadN (q := 58) X0 hx (hb hby d7_57) rfl ?_
          refine E.iconst (q := 59) (v := (4 : Int32)) X0 hx (hb hby d7_58) rfl ?_
          refine E.iushr (q := 60) X0 hx (hb hby d7_59) ?_
          refine E.istoreN (q := 61) (l' := #[.val (.int ((k0.toUInt32 >>> ((4 : Int32) &&& 31).toUInt32).toInt32)), .val (.int (27 : Int32))]) X0 hx (hb hby d7_60) rfl ?_
          refine E.iloadN (q := 62) X0 hx (hb hby d7_61) rfl ?_
          refine E.iconst (q := 63) (v := (4 : Int32)) X0 hx (hb hby d7_62) rfl ?_
          by_cases hc63_3 : ((k0.toUInt32 >>> ((4 : Int32) &&& 31).toUInt32).toInt32) < (4 : Int32)
          · refine E.icmpY (q := 73) X0 hx (hb hby d7_63) (XT.ii_lt_t hc63_3) ?_
            refine E.iloadN (q := 74) X0 hx (hb hby d7_73) rfl ?_
            refine E.iloadN (q := 75) X0 hx (hb hby d7_74) rfl ?_
            refine E.iconst (q := 76) (v := (1 : Int32)) X0 hx (hb hby d7_75) rfl ?_
            refine E.iushr (q := 77) X0 hx (hb hby d7_76) ?_
            refine E.isub (q := 78) X0 hx (hb hby d7_77) ?_
            exact Ends.retI X0 hx hlk hret (hb hby d7_78) (by decide) (by decide) ⟨_, rfl, own_inv_end (s := 4) (own_inv_lt (v := 2) (own_inv_ge (v := 4) (sh := (4 : Int32)) (n' := (27 : Int32)) (own_inv_lt (v := 8) (own_inv_lt (v := 16) (own_inv0 hpos) (by decide) hc22_0) (by decide) hc37_1) (by decide) rfl (by decide) (by decide) (by decide) hc51_2) (by decide) hc63_3) (by decide), e0, rfl⟩
          · refine E.icmpN (q := 66) X0 hx (hb hby d7_63) (XT.ii_lt_f hc63_3) ?_
            refine E.iinc (q := 69) (v := (25 : Int32)) (l' := #[.val (.int ((k0.toUInt32 >>> ((4 : Int32) &&& 31).toUInt32).toInt32)), .val (.int (25 : Int32))]) X0 hx (hb hby d7_66) rfl (by decide) rfl ?_
            refine E.iloadN (q := 70) X0 hx (hb hby d7_69) rfl ?_
            refine E.iconst (q := 71) (v := (2 : Int32)) X0 hx (hb hby d7_70) rfl ?_
            refine E.iushr (q := 72) X0 hx (hb hby d7_71) ?_
            refine E.istoreN (q := 73) (l' := #[.val (.int ((((k0.toUInt32 >>> ((4 : Int32) &&& 31).toUInt32).toInt32).toUInt32 >>> ((2 : Int32) &&& 31).toUInt32).toInt32)), .val (.int (25 : Int32))]) X0 hx (hb hby d7_72) rfl ?_
            refine E.iloadN (q := 74) X0 hx (hb hby d7_73) rfl ?_
            refine E.iloadN (q := 75) X0 hx (hb hby d7_74) rfl ?_
            refine E.iconst (q := 76) (v := (1 : Int32)) X0 hx (hb hby d7_75) rfl ?_
            refine E.iushr (q := 77) X0 hx (hb hby d7_76) ?_
            refine E.isub (q := 78) X0 hx (hb hby d7_77) ?_
            exact Ends.retI X0 hx hlk hret (hb hby d7_78) (by decide) (by decide) ⟨_, rfl, own_inv_end (s := 6) (own_inv_ge (v := 2) (sh := (2 : Int32)) (n' := (25 : Int32)) (own_inv_ge (v := 4) (sh := (4 : Int32)) (n' := (27 : Int32)) (own_inv_lt (v := 8) (own_inv_lt (v := 16) (own_inv0 hpos) (by decide) hc22_0) (by decide) hc37_1) (by decide) rfl (by decide) (by decide) (by decide) hc51_2) (by decide) rfl (by decide) (by decide) (by decide) hc63_3) (by decide), e0, rfl⟩
      · refine E.icmpN (q := 40) X0 hx (hb hby d7_37) (XT.ii_lt_f hc37_1) ?_
        refine E.iinc (q := 43) (v := (23 : Int32)) (l' := #[.val (.int k0), .val (.int (23 : Int32))]) X0 hx (hb hby d7_40) rfl (by decide) rfl ?_
        refine E.iloadN (q := 44) X0 hx (hb hby d7_43) rfl ?_
        refine E.bipush (q := 46) (v := (8 : Int32)) X0 hx (hb hby d7_44) rfl ?_
        refine E.iushr (q := 47) X0 hx (hb hby d7_46) ?_
        refine E.istoreN (q := 48) (l' := #[.val (.int ((k0.toUInt32 >>> ((8 : Int32) &&& 31).toUInt32).toInt32)), .val (.int (23 : Int32))]) X0 hx (hb hby d7_47) rfl ?_
        refine E.iloadN (q := 49) X0 hx (hb hby d7_48) rfl ?_
        refine E.bipush (q := 51) (v := (16 : Int32)) X0 hx (hb hby d7_49) rfl ?_
        by_cases hc51_2 : ((k0.toUInt32 >>> ((8 : Int32) &&& 31).toUInt32).toInt32) < (16 : Int32)
        · refine E.icmpY (q := 61) X0 hx (hb hby d7_51) (XT.ii_lt_t hc51_2) ?_
          refine E.iloadN (q := 62) X0 hx (hb hby d7_61) rfl ?_
          refine E.iconst (q := 63) (v := (4 : Int32)) X0 hx (hb hby d7_62) rfl ?_
          by_cases hc63_3 : ((k0.toUInt32 >>> ((8 : Int32) &&& 31).toUInt32).toInt32) < (4 : Int32)
          · refine E.icmpY (q := 73) X0 hx (hb hby d7_63) (XT.ii_lt_t hc63_3) ?_
            refine E.iloadN (q := 74) X0 hx (hb hby d7_73) rfl ?_
            refine E.iloadN (q := 75) X0 hx (hb hby d7_74) rfl ?_
            refine E.iconst (q := 76) (v := (1 : Int32)) X0 hx (hb hby d7_75) rfl ?_
            refine E.iushr (q := 77) X0 hx (hb hby d7_76) ?_
            refine E.isub (q := 78) X0 hx (hb hby d7_77) ?_
            exact Ends.retI X0 hx hlk hret (hb hby d7_78) (by decide) (by decide) ⟨_, rfl, own_inv_end (s := 8) (own_inv_lt (v := 2) (own_inv_lt (v := 4) (own_inv_ge (v := 8) (sh := (8 : Int32)) (n' := (23 : Int32)) (own_inv_lt (v := 16) (own_inv0 hpos) (by decide) hc22_0) (by decide) rfl (by decide) (by decide) (by decide) hc37_1) (by decide) hc51_2) (by decide) hc63_3) (by decide), e0, rfl⟩
          · refine E.icmpN (q := 66) X0 hx (hb hby d7_63) (XT.ii_lt_f hc63_3) ?_
            refine E.iinc (q := 69) (v := (21 : Int32)) (l' := #[.val (.int ((k0.toUInt32 >>> ((8 : Int32) &&& 31).toUInt32).toInt32)), .val (.int (21 : Int32))]) X0 hx (hb hby d7_66) rfl (by decide) rfl ?_
            refine E.iloadN (q := 70) X0 hx (hb hby d7_69) rfl ?_
            refine E.iconst (q := 71) (v := (2 : Int32)) X0 hx (hb hby d7_70) rfl ?_
            refine E.iushr (q := 72) X0 hx (hb hby d7_71) ?_
            refine E.istoreN (q := 73) (l' := #[.val (.int ((((k0.toUInt32 >>> ((8 : Int32) &&& 31).toUInt32).toInt32).toUInt32 >>> ((2 : Int32) &&& 31).toUInt32).toInt32)), .val (.int (21 : Int32))]) X0 hx (hb hby d7_72) rfl ?_
            refine E.iloadN (q := 74) X0 hx (hb hby d7_73) rfl ?_
            refine E.iloadN (q := 75) X0 hx (hb hby d7_74) rfl ?_
            refine E.iconst (q := 76) (v := (1 : Int32)) X0 hx (hb hby d7_75) rfl ?_
            refine E.iushr (q := 77) X0 hx (hb hby d7_76) ?_
            refine E.isub (q := 78) X0 hx (hb hby d7_77) ?_
            exact Ends.retI X0 hx hlk hret (hb hby d7_78) (by decide) (by decide) ⟨_, rfl, own_inv_end (s := 10) (own_inv_ge (v := 2) (sh := (2 : Int32)) (n' := (21 : Int32)) (own_inv_lt (v := 4) (own_inv_ge (v := 8) (sh := (8 : Int32)) (n' := (23 : Int32)) (own_inv_lt (v := 16) (own_inv0 hpos) (by decide) hc22_0) (by decide) rfl (by decide) (by decide) (by decide) hc37_1) (by decide) hc51_2) (by decide) rfl (by decide) (by decide) (by decide) hc63_3) (by decide), e0, rfl⟩
        · refine E.icmpN (q := 54) X0 hx (hb hby d7_51) (XT.ii_lt_f hc51_2) ?_
          refine E.iinc (q := 57) (v := (19 : Int32)) (l' := #[.val (.int ((k0.toUInt32 >>> ((8 : Int32) &&& 31).toUInt32).toInt32)), .val (.int (19 : Int32))]) X0 hx (hb hby d7_54) rfl (by decide) rfl ?_
          refine E.iloadN (q := 58) X0 hx (hb hby d7_57) rfl ?_
          refine E.iconst (q := 59) (v := (4 : Int32)) X0 hx (hb hby d7_58) rfl ?_
          refine E.iushr (q := 60) X0 hx (hb hby d7_59) ?_
          refine E.istoreN (q := 61) (l' := #[.val (.int ((((k0.toUInt32 >>> ((8 : Int32) &&& 31).toUInt32).toInt32).toUInt32 >>> ((4 : Int32) &&& 31).toUInt32).toInt32)), .val (.int (19 : Int32))]) X0 hx (hb hby d7_60) rfl ?_
          refine E.iloadN (q := 62) X0 hx (hb hby d7_61) rfl ?_
          refine E.iconst (q := 63) (v := (4 : Int32)) X0 hx (hb hby d7_62) rfl ?_
          by_cases hc63_3 : ((((k0.toUInt32 >>> ((8 : Int32) &&& 31).toUInt32).toInt32).toUInt32 >>> ((4 : Int32) &&& 31).toUInt32).toInt32) < (4 : Int32)
          · refine E.icmpY (q := 73) X0 hx (hb hby d7_63) (XT.ii_lt_t hc63_3) ?_
            refine E.iloadN (q := 74) X0 hx (hb hby d7_73) rfl ?_
            refine E.iloadN (q := 75) X0 hx (hb hby d7_74) rfl ?_
            refine E.iconst (q := 76) (v := (1 : Int32)) X0 hx (hb hby d7_75) rfl ?_
            refine E.iushr (q := 77) X0 hx (hb hby d7_76) ?_
            refine E.isub (q := 78) X0 hx (hb hby d7_77) ?_
            exact Ends.retI X0 hx hlk hret (hb hby d7_78) (by decide) (by decide) ⟨_, rfl, own_inv_end (s := 12) (own_inv_lt (v := 2) (own_inv_ge (v := 4) (sh := (4 : Int32)) (n' := (19 : Int32)) (own_inv_ge (v := 8) (sh := (8 : Int32)) (n' := (23 : Int32)) (own_inv_lt (v := 16) (own_inv0 hpos) (by decide) hc22_0) (by decide) rfl (by decide) (by decide) (by decide) hc37_1) (by decide) rfl (by decide) (by decide) (by decide) hc51_2) (by decide) hc63_3) (by decide), e0, rfl⟩
          · refine E.icmpN (q := 66) X0 hx (hb hby d7_63) (XT.ii_lt_f hc63_3) ?_
            refine E.iinc (q := 69) (v := (17 : Int32)) (l' := #[.val (.int ((((k0.toUInt32 >>> ((8 : Int32) &&& 31).toUInt32).toInt32).toUInt32 >>> ((4 : Int32) &&& 31).toUInt32).toInt32)), .val (.int (17 : Int32))]) X0 hx (hb hby d7_66) rfl (by decide) rfl ?_
            refine E.iloadN (q := 70) X0 hx (hb hby d7_69) rfl ?_
            refine E.iconst (q := 71) (v := (2 : Int32)) X0 hx (hb hby d7_70) rfl ?_
            refine E.iushr (q := 72) X0 hx (hb hby d7_71) ?_
            refine E.istoreN (q := 73) (l' := #[.val (.int ((((((k0.toUInt32 >>> ((8 : Int32) &&& 31).toUInt32).toInt32).toUInt32 >>> ((4 : Int32) &&& 31).toUInt32).toInt32).toUInt32 >>> ((2 : Int32) &&& 31).toUInt32).toInt32)), .val (.int (17 : Int32))]) X0 hx (hb hby d7_72) rfl ?_
            refine E.iloadN (q := 74) X0 hx (hb hby d7_73) rfl ?_
            refine E.iloadN (q := 75) X0 hx (hb hby d7_74) rfl ?_
            refine E.iconst (q := 76) (v := (1 : Int32)) X0 hx (hb hby d7_75) rfl ?_
            refine E.iushr (q := 77) X0 hx (hb hby d7_76) ?_
            refine E.isub (q := 78) X0 hx (hb hby d7_77) ?_
            exact Ends.retI X0 hx hlk hret (hb hby d7_78) (by decide) (by decide) ⟨_, rfl, own_inv_end (s := 14) (own_inv_ge (v := 2) (sh := (2 : Int32)) (n' := (17 : Int32)) (own_inv_ge (v := 4) (sh := (4 : Int32)) (n' := (19 : Int32)) (own_inv_ge (v := 8) (sh := (8 : Int32)) (n' := (23 : Int32)) (own_inv_lt (v := 16) (own_inv0 hpos) (by decide) hc22_0) (by decide) rfl (by decide) (by decide) (by decide) hc37_1) (by decide) rfl (by decide) (by decide) (by decide) hc51_2) (by decide) rfl (by decide) (by decide) (by decide) hc63_3) (by decide), e0, rfl⟩
    · refine E.icmpN (q := 25) X0 hx (hb hby d7_22) (XT.ii_lt_f hc22_0) ?_
      refine E.iinc (q := 28) (v := (15 : Int32)) (l' := #[.val (.int k0), .val (.int (15 : Int32))]) X0 hx (hb hby d7_25) rfl (by decide) rfl ?_
      refine E.iloadN (q := 29) X0 hx (hb hby d7_28) rfl ?_
      refine E.bipush (q := 31) (v := (16 : Int32)) X0 hx (hb hby d7_29) rfl ?_
      refine E.iushr (q := 32) X0 hx (hb hby d7_31) ?_
      refine E.istoreN (q := 33) (l' := #[.val (.int ((k0.toUInt32 >>> ((16 : Int32) &&& 31).toUInt32).toInt32)), .val (.int (15 : Int32))]) X0 hx (hb hby d7_32) rfl ?_
      refine E.iloadN (q := 34) X0 hx (hb hby d7_33) rfl ?_
      refine E.sipush (q := 37) (v := (256 : Int32)) X0 hx (hb hby d7_34) rfl ?_
      by_cases hc37_1 : ((k0.toUInt32 >>> ((16 : Int32) &&& 31).toUInt32).toInt32) < (256 : Int32)
      · refine E.icmpY (q := 48) X0 hx (hb hby d7_37) (XT.ii_lt_t hc37_1) ?_
        refine E.iloadN (q := 49) X0 hx (hb hby d7_48) rfl ?_
        refine E.bipush (q := 51) (v := (16 : Int32)) X0 hx (hb hby d7_49) rfl ?_
        by_cases hc51_2 : ((k0.toUInt32 >>> ((16 : Int32) &&& 31).toUInt32).toInt32) < (16 : Int32)
        · refine E.icmpY (q := 61) X0 hx (hb hby d7_51) (XT.ii_lt_t hc51_2) ?_
          refine E.iloadN (q := 62) X0 hx (hb hby d7_61) rfl ?_
          refine E.iconst (q := 63) (v := (4 : Int32)) X0 hx (hb hby d7_62) rfl ?_
          by_cases hc63_3 : ((k0.toUInt32 >>> ((16 : Int32) &&& 31).toUInt32).toInt32) < (4 : Int32)
          · refine E.icmpY (q := 73) X0 hx (hb hby d7_63) (XT.ii_lt_t hc63_3) ?_
            refine E.iloadN (q := 74) X0 hx (hb hby d7_73) rfl ?_
            refine E.iloadN (q := 75) X0 hx (hb hby d7_74) rfl ?_
            refine E.iconst (q := 76) (v := (1 : Int32)) X0 hx (hb hby d7_75) rfl ?_
            refine E.iushr (q := 77) X0 hx (hb hby d7_76) ?_
            refine E.isub (q := 78) X0 hx (hb hby d7_77) ?_
            exact Ends.retI X0 hx hlk hret (hb hby d7_78) (by decide) (by decide) ⟨_, rfl, own_inv_end (s := 16) (own_inv_lt (v := 2) (own_inv_lt (v := 4) (own_inv_lt (v := 8) (own_inv_ge (v := 16) (sh := (16 : Int32)) (n' := (15 : Int32)) (own_inv0 hpos) (by decide) rfl (by decide) (by decide) (by decide) hc22_0) (by decide) hc37_1) (by decide) hc51_2) (by decide) hc63_3) (by decide), e0, rfl⟩
          · refine E.icmpN (q := 66) X0 hx (hb hby d7_63) (XT.ii_lt_f hc63_3) ?_
            refine E.iinc (q := 69) (v := (13 : Int32)) (l' := #[.val (.int ((k0.toUInt32 >>> ((16 : Int32) &&& 31).toUInt32).toInt32)), .val (.int (13 : Int32))]) X0 hx (hb hby d7_66) rfl (by decide) rfl ?_
            refine E.iloadN (q := 70) X0 hx (hb hby d7_69) rfl ?_
            refine E.iconst (q := 71) (v := (2 : Int32)) X0 hx (hb hby d7_70) rfl ?_
            refine E.iushr (q := 72) X0 hx (hb hby d7_71) ?_
            refine E.istoreN (q := 73) (l' := #[.val (.int ((((k0.toUInt32 >>> ((16 : Int32) &&& 31).toUInt32).toInt32).toUInt32 >>> ((2 : Int32) &&& 31).toUInt32).toInt32)), .val (.int (13 : Int32))]) X0 hx (hb hby d7_72) rfl ?_
            refine E.iloadN (q := 74) X0 hx (hb hby d7_73) rfl ?_
            refine E.iloadN (q := 75) X0 hx (hb hby d7_74) rfl ?_
            refine E.iconst (q := 76) (v := (1 : Int32)) X0 hx (hb hby d7_75) rfl ?_
            refine E.iushr (q := 77) X0 hx (hb hby d7_76) ?_
            refine E.isub (q := 78) X0 hx (hb hby d7_77) ?_
            exact Ends.retI X0 hx hlk hret (hb hby d7_78) (by decide) (by decide) ⟨_, rfl, own_inv_end (s := 18) (own_inv_ge (v := 2) (sh := (2 : Int32)) (n' := (13 : Int32)) (own_inv_lt (v := 4) (own_inv_lt (v := 8) (own_inv_ge (v := 16) (sh := (16 : Int32)) (n' := (15 : Int32)) (own_inv0 hpos) (by decide) rfl (by decide) (by decide) (by decide) hc22_0) (by decide) hc37_1) (by decide) hc51_2) (by decide) rfl (by decide) (by decide) (by decide) hc63_3) (by decide), e0, rfl⟩
        · refine E.icmpN (q := 54) X0 hx (hb hby d7_51) (XT.ii_lt_f hc51_2) ?_
          refine E.iinc (q := 57) (v := (11 : Int32)) (l' := #[.val (.int ((k0.toUInt32 >>> ((16 : Int32) &&& 31).toUInt32).toInt32)), .val (.int (11 : Int32))]) X0 hx (hb hby d7_54) rfl (by decide) rfl ?_
          refine E.iloadN (q := 58) X0 hx (hb hby d7_57) rfl ?_
          refine E.iconst (q := 59) (v := (4 : Int32)) X0 hx (hb hby d7_58) rfl ?_
          refine E.iushr (q := 60) X0 hx (hb hby d7_59) ?_
          refine E.istoreN (q := 61) (l' := #[.val (.int ((((k0.toUInt32 >>> ((16 : Int32) &&& 31).toUInt32).toInt32).toUInt32 >>> ((4 : Int32) &&& 31).toUInt32).toInt32)), .val (.int (11 : Int32))]) X0 hx (hb hby d7_60) rfl ?_
          refine E.iloadN (q := 62) X0 hx (hb hby d7_61) rfl ?_
          refine E.iconst (q := 63) (v := (4 : Int32)) X0 hx (hb hby d7_62) rfl ?_
          by_cases hc63_3 : ((((k0.toUInt32 >>> ((16 : Int32) &&& 31).toUInt32).toInt32).toUInt32 >>> ((4 : Int32) &&& 31).toUInt32).toInt32) < (4 : Int32)
          · refine E.icmpY (q := 73) X0 hx (hb hby d7_63) (XT.ii_lt_t hc63_3) ?_
            refine E.iloadN (q := 74) X0 hx (hb hby d7_73) rfl ?_
            refine E.iloadN (q := 75) X0 hx (hb hby d7_74) rfl ?_
            refine E.iconst (q := 76) (v := (1 : Int32)) X0 hx (hb hby d7_75) rfl ?_
            refine E.iushr (q := 77) X0 hx (hb hby d7_76) ?_
            refine E.isub (q := 78) X0 hx (hb hby d7_77) ?_
            exact Ends.retI X0 hx hlk hret (hb hby d7_78) (by decide) (by decide) ⟨_, rfl, own_inv_end (s := 20) (own_inv_lt (v := 2) (own_inv_ge (v := 4) (sh := (4 : Int32)) (n' := (11 : Int32)) (own_inv_lt (v := 8) (own_inv_ge (v := 16) (sh := (16 : Int32)) (n' := (15 : Int32)) (own_inv0 hpos) (by decide) rfl (by decide) (by decide) (by decide) hc22_0) (by decide) hc37_1) (by decide) rfl (by decide) (by decide) (by decide) hc51_2) (by decide) hc63_3) (by decide), e0, rfl⟩
          · refine E.icmpN (q := 66) X0 hx (hb hby d7_63) (XT.ii_lt_f hc63_3) ?_
            refine E.iinc (q := 69) (v := (9 : Int32)) (l' := #[.val (.int ((((k0.toUInt32 >>> ((16 : Int32) &&& 31).toUInt32).toInt32).toUInt32 >>> ((4 : Int32) &&& 31).toUInt32).toInt32)), .val (.int (9 : Int32))]) X0 hx (hb hby d7_66) rfl (by decide) rfl ?_
            refine E.iloadN (q := 70) X0 hx (hb hby d7_69) rfl ?_
            refine E.iconst (q := 71) (v := (2 : Int32)) X0 hx (hb hby d7_70) rfl ?_
            refine E.iushr (q := 72) X0 hx (hb hby d7_71) ?_
            refine E.istoreN (q := 73) (l' := #[.val (.int ((((((k0.toUInt32 >>> ((16 : Int32) &&& 31).toUInt32).toInt32).toUInt32 >>> ((4 : Int32) &&& 31).toUInt32).toInt32).toUInt32 >>> ((2 : Int32) &&& 31).toUInt32).toInt32)), .val (.int (9 : Int32))]) X0 hx (hb hby d7_72) rfl ?_
            refine E.iloadN (q := 74) X0 hx (hb hby d7_73) rfl ?_
            refine E.iloadN (q := 75) X0 hx (hb hby d7_74) rfl ?_
            refine E.iconst (q := 76) (v := (1 : Int32)) X0 hx (hb hby d7_75) rfl ?_
            refine E.iushr (q := 77) X0 hx (hb hby d7_76) ?_
            refine E.isub (q := 78) X0 hx (hb hby d7_77) ?_
            exact Ends.retI X0 hx hlk hret (hb hby d7_78) (by decide) (by decide) ⟨_, rfl, own_inv_end (s := 22) (own_inv_ge (v := 2) (sh := (2 : Int32)) (n' := (9 : Int32)) (own_inv_ge (v := 4) (sh := (4 : Int32)) (n' := (11 : Int32)) (own_inv_lt (v := 8) (own_inv_ge (v := 16) (sh := (16 : Int32)) (n' := (15 : Int32)) (own_inv0 hpos) (by decide) rfl (by decide) (by decide) (by decide) hc22_0) (by decide) hc37_1) (by decide) rfl (by decide) (by decide) (by decide) hc51_2) (by decide) rfl (by decide) (by decide) (by decide) hc63_3) (by decide), e0, rfl⟩
      · refine E.icmpN (q := 40) X0 hx (hb hby d7_37) (XT.ii_lt_f hc37_1) ?_
        refine E.iinc (q := 43) (v := (7 : Int32)) (l' := #[.val (.int ((k0.toUInt32 >>> ((16 : Int32) &&& 31).toUInt32).toInt32)), .val (.int (7 : Int32))]) X0 hx (hb hby d7_40) rfl (by decide) rfl ?_
        refine E.iloadN (q := 44) X0 hx (hb hby d7_43) rfl ?_
        refine E.bipush (q := 46) (v := (8 : Int32)) X0 hx (hb hby d7_44) rfl ?_
        refine E.iushr (q := 47) X0 hx (hb hby d7_46) ?_
        refine E.istoreN (q := 48) (l' := #[.val (.int ((((k0.toUInt32 >>> ((16 : Int32) &&& 31).toUInt32).toInt32).toUInt32 >>> ((8 : Int32) &&& 31).toUInt32).toInt32)), .val (.int (7 : Int32))]) X0 hx (hb hby d7_47) rfl ?_
        refine E.iloadN (q := 49) X0 hx (hb hby d7_48) rfl ?_
        refine E.bipush (q := 51) (v := (16 : Int32)) X0 hx (hb hby d7_49) rfl ?_
        by_cases hc51_2 : ((((k0.toUInt32 >>> ((16 : Int32) &&& 31).toUInt32).toInt32).toUInt32 >>> ((8 : Int32) &&& 31).toUInt32).toInt32) < (16 : Int32)
        · refine E.icmpY (q := 61) X0 hx (hb hby d7_51) (XT.ii_lt_t hc51_2) ?_
          refine E.iloadN (q := 62) X0 hx (hb hby d7_61) rfl ?_
          refine E.iconst (q := 63) (v := (4 : Int32)) X0 hx (hb hby d7_62) rfl ?_
          by_cases hc63_3 : ((((k0.toUInt32 >>> ((16 : Int32) &&& 31).toUInt32).toInt32).toUInt32 >>> ((8 : Int32) &&& 31).toUInt32).toInt32) < (4 : Int32)
          · refine E.icmpY (q := 73) X0 hx (hb hby d7_63) (XT.ii_lt_t hc63_3) ?_
            refine E.iloadN (q := 74) X0 hx (hb hby d7_73) rfl ?_
            refine E.iloadN (q := 75) X0 hx (hb hby d7_74) rfl ?_
            refine E.iconst (q := 76) (v := (1 : Int32)) X0 hx (hb hby d7_75) rfl ?_
            refine E.iushr (q := 77) X0 hx (hb hby d7_76) ?_
            refine E.isub (q := 78) X0 hx (hb hby d7_77) ?_
            exact Ends.retI X0 hx hlk hret (hb hby d7_78) (by decide) (by decide) ⟨_, rfl, own_inv_end (s := 24) (own_inv_lt (v := 2) (own_inv_lt (v := 4) (own_inv_ge (v := 8) (sh := (8 : Int32)) (n' := (7 : Int32)) (own_inv_ge (v := 16) (sh := (16 : Int32)) (n' := (15 : Int32)) (own_inv0 hpos) (by decide) rfl (by decide) (by decide) (by decide) hc22_0) (by decide) rfl (by decide) (by decide) (by decide) hc37_1) (by decide) hc51_2) (by decide) hc63_3) (by decide), e0, rfl⟩
          · refine E.icmpN (q := 66) X0 hx (hb hby d7_63) (XT.ii_lt_f hc63_3) ?_
            refine E.iinc (q := 69) (v := (5 : Int32)) (l' := #[.val (.int ((((k0.toUInt32 >>> ((16 : Int32) &&& 31).toUInt32).toInt32).toUInt32 >>> ((8 : Int32) &&& 31).toUInt32).toInt32)), .val (.int (5 : Int32))]) X0 hx (hb hby d7_66) rfl (by decide) rfl ?_
            refine E.iloadN (q := 70) X0 hx (hb hby d7_69) rfl ?_
            refine E.iconst (q := 71) (v := (2 : Int32)) X0 hx (hb hby d7_70) rfl ?_
            refine E.iushr (q := 72) X0 hx (hb hby d7_71) ?_
            refine E.istoreN (q := 73) (l' := #[.val (.int ((((((k0.toUInt32 >>> ((16 : Int32) &&& 31).toUInt32).toInt32).toUInt32 >>> ((8 : Int32) &&& 31).toUInt32).toInt32).toUInt32 >>> ((2 : Int32) &&& 31).toUInt32).toInt32)), .val (.int (5 : Int32))]) X0 hx (hb hby d7_72) rfl ?_
            refine E.iloadN (q := 74) X0 hx (hb hby d7_73) rfl ?_
            refine E.iloadN (q := 75) X0 hx (hb hby d7_74) rfl ?_
            refine E.iconst (q := 76) (v := (1 : Int32)) X0 hx (hb hby d7_75) rfl ?_
            refine E.iushr (q := 77) X0 hx (hb hby d7_76) ?_
            refine E.isub (q := 78) X0 hx (hb hby d7_77) ?_
            exact Ends.retI X0 hx hlk hret (hb hby d7_78) (by decide) (by decide) ⟨_, rfl, own_inv_end (s := 26) (own_inv_ge (v := 2) (sh := (2 : Int32)) (n' := (5 : Int32)) (own_inv_lt (v := 4) (own_inv_ge (v := 8) (sh := (8 : Int32)) (n' := (7 : Int32)) (own_inv_ge (v := 16) (sh := (16 : Int32)) (n' := (15 : Int32)) (own_inv0 hpos) (by decide) rfl (by decide) (by decide) (by decide) hc22_0) (by decide) rfl (by decide) (by decide) (by decide) hc37_1) (by decide) hc51_2) (by decide) rfl (by decide) (by decide) (by decide) hc63_3) (by decide), e0, rfl⟩
        · refine E.icmpN (q := 54) X0 hx (hb hby d7_51) (XT.ii_lt_f hc51_2) ?_
          refine E.iinc (q := 57) (v := (3 : Int32)) (l' := #[.val (.int ((((k0.toUInt32 >>> ((16 : Int32) &&& 31).toUInt32).toInt32).toUInt32 >>> ((8 : Int32) &&& 31).toUInt32).toInt32)), .val (.int (3 : Int32))]) X0 hx (hb hby d7_54) rfl (by decide) rfl ?_
          refine E.iloadN (q := 58) X0 hx (hb hby d7_57) rfl ?_
          refine E.iconst (q := 59) (v := (4 : Int32)) X0 hx (hb hby d7_58) rfl ?_
          refine E.iushr (q := 60) X0 hx (hb hby d7_59) ?_
          refine E.istoreN (q := 61) (l' := #[.val (.int ((((((k0.toUInt32 >>> ((16 : Int32) &&& 31).toUInt32).toInt32).toUInt32 >>> ((8 : Int32) &&& 31).toUInt32).toInt32).toUInt32 >>> ((4 : Int32) &&& 31).toUInt32).toInt32)), .val (.int (3 : Int32))]) X0 hx (hb hby d7_60) rfl ?_
          refine E.iloadN (q := 62) X0 hx (hb hby d7_61) rfl ?_
          refine E.iconst (q := 63) (v := (4 : Int32)) X0 hx (hb hby d7_62) rfl ?_
          by_cases hc63_3 : ((((((k0.toUInt32 >>> ((16 : Int32) &&& 31).toUInt32).toInt32).toUInt32 >>> ((8 : Int32) &&& 31).toUInt32).toInt32).toUInt32 >>> ((4 : Int32) &&& 31).toUInt32).toInt32) < (4 : Int32)
          · refine E.icmpY (q := 73) X0 hx (hb hby d7_63) (XT.ii_lt_t hc63_3) ?_
            refine E.iloadN (q := 74) X0 hx (hb hby d7_73) rfl ?_
            refine E.iloadN (q := 75) X0 hx (hb hby d7_74) rfl ?_
            refine E.iconst (q := 76) (v := (1 : Int32)) X0 hx (hb hby d7_75) rfl ?_
            refine E.iushr (q := 77) X0 hx (hb hby d7_76) ?_
            refine E.isub (q := 78) X0 hx (hb hby d7_77) ?_
            exact Ends.retI X0 hx hlk hret (hb hby d7_78) (by decide) (by decide) ⟨_, rfl, own_inv_end (s := 28) (own_inv_lt (v := 2) (own_inv_ge (v := 4) (sh := (4 : Int32)) (n' := (3 : Int32)) (own_inv_ge (v := 8) (sh := (8 : Int32)) (n' := (7 : Int32)) (own_inv_ge (v := 16) (sh := (16 : Int32)) (n' := (15 : Int32)) (own_inv0 hpos) (by decide) rfl (by decide) (by decide) (by decide) hc22_0) (by decide) rfl (by decide) (by decide) (by decide) hc37_1) (by decide) rfl (by decide) (by decide) (by decide) hc51_2) (by decide) hc63_3) (by decide), e0, rfl⟩
          · refine E.icmpN (q := 66) X0 hx (hb hby d7_63) (XT.ii_lt_f hc63_3) ?_
            refine E.iinc (q := 69) (v := (1 : Int32)) (l' := #[.val (.int ((((((k0.toUInt32 >>> ((16 : Int32) &&& 31).toUInt32).toInt32).toUInt32 >>> ((8 : Int32) &&& 31).toUInt32).toInt32).toUInt32 >>> ((4 : Int32) &&& 31).toUInt32).toInt32)), .val (.int (1 : Int32))]) X0 hx (hb hby d7_66) rfl (by decide) rfl ?_
            refine E.iloadN (q := 70) X0 hx (hb hby d7_69) rfl ?_
            refine E.iconst (q := 71) (v := (2 : Int32)) X0 hx (hb hby d7_70) rfl ?_
            refine E.iushr (q := 72) X0 hx (hb hby d7_71) ?_
            refine E.istoreN (q := 73) (l' := #[.val (.int ((((((((k0.toUInt32 >>> ((16 : Int32) &&& 31).toUInt32).toInt32).toUInt32 >>> ((8 : Int32) &&& 31).toUInt32).toInt32).toUInt32 >>> ((4 : Int32) &&& 31).toUInt32).toInt32).toUInt32 >>> ((2 : Int32) &&& 31).toUInt32).toInt32)), .val (.int (1 : Int32))]) X0 hx (hb hby d7_72) rfl ?_
            refine E.iloadN (q := 74) X0 hx (hb hby d7_73) rfl ?_
            refine E.iloadN (q := 75) X0 hx (hb hby d7_74) rfl ?_
            refine E.iconst (q := 76) (v := (1 : Int32)) X0 hx (hb hby d7_75) rfl ?_
            refine E.iushr (q := 77) X0 hx (hb hby d7_76) ?_
            refine E.isub (q := 78) X0 hx (hb hby d7_77) ?_
            exact Ends.retI X0 hx hlk hret (hb hby d7_78) (by decide) (by decide) ⟨_, rfl, own_inv_end (s := 30) (own_inv_ge (v := 2) (sh := (2 : Int32)) (n' := (1 : Int32)) (own_inv_ge (v := 4) (sh := (4 : Int32)) (n' := (3 : Int32)) (own_inv_ge (v := 8) (sh := (8 : Int32)) (n' := (7 : Int32)) (own_inv_ge (v := 16) (sh := (16 : Int32)) (n' := (15 : Int32)) (own_inv0 hpos) (by decide) rfl (by decide) (by decide) (by decide) hc22_0) (by decide) rfl (by decide) (by decide) (by decide) hc37_1) (by decide) rfl (by decide) (by decide) (by decide) hc51_2) (by decide) rfl (by decide) (by decide) (by decide) hc63_3) (by decide), e0, rfl⟩
  · refine E.ifN (q := 4) X0 hx (hb hby d7_1) (XT.i0_gt_f hpos) ?_
    refine E.iloadN (q := 5) X0 hx (hb hby d7_4) rfl ?_
    refine E.ifY (q := 13) X0 hx (hb hby d7_5) (XT.i0_ne_t hk0) ?_
    refine E.iconst (q := 14) (v := (0 : Int32)) X0 hx (hb hby d7_13) rfl ?_
    exact Ends.retI X0 hx hlk hret (hb hby d7_14) (by decide) (by decide) ⟨_, rfl, own_z32_neg hpos hk0, e0, rfl⟩
theorem ef_6 (m : MethodId) (x0 : Int64) : entryFrame m #[(.long x0)] 3 = mkF m 0 #[.val (.long x0), .second, .unset] [] := by first | (simp [entryFrame, mkF, argsToLocals, Value.category]; done) | rfl
set_option maxRecDepth 65536 in
set_option maxHeartbeats 40000000 in
theorem rm6 (l : Launch) (Z : State) (a0 : Array Value) (hw : ∀ d ∈ tables_1, d.before a0 Z = true) (g0 : Int64) (h0 : Heap) (hg0 : own_N g0 ≠ 0) :
    Con l (⟨"java/lang/Long", "numberOfLeadingZeros", "(J)I"⟩ : MethodName) jdk_35_method_48_code 3 (some .int) [] ({ frames := 1, cells := 0, slots := 0, locals := 15 } : Room) #[(.long g0)] Z h0 (fun v h L => ∃ z, v = some (.int z) ∧ own_z64 g0 z ∧ h = h0 ∧ L = []) := by
  refine Con.of (plainFor_of_name pn_1) ?_
  intro p e s m below meth c s₁ hx hZ hby hml hown hnm hret hlk X0 e0
  refine Ends.cast (ef_6 m g0) ?_
  show Ends p e below s _ _ _ s₁ (mkF m 0 #[.val (.long g0), .second, .unset] [])
  refine E.lloadN (q := 1) X0 hx (hb hby d6_0) rfl ?_
  refine E.bipush (q := 3) (v := (32 : Int32)) X0 hx (hb hby d6_1) rfl ?_
  refine E.lushr (q := 4) X0 hx (hb hby d6_3) ?_
  refine E.l2i (q := 5) X0 hx (hb hby d6_4) ?_
  refine E.istoreN (q := 6) (l' := #[.val (.long g0), .second, .val (.int (((g0.toUInt64 >>> ((32 : Int32) &&& 0x3f).toInt64.toUInt64).toInt64).toInt32))]) X0 hx (hb hby d6_5) rfl ?_
  refine E.iloadN (q := 7) X0 hx (hb hby d6_6) rfl ?_
  by_cases hhi : own_hi g0 = 0
  · refine E.ifN (q := 10) X0 hx (hb hby d6_7) (XT.i0_ne_f hhi) ?_
    refine E.bipush (q := 12) (v := (32 : Int32)) X0 hx (hb hby d6_10) rfl ?_
    refine E.lloadN (q := 13) X0 hx (hb hby d6_12) rfl ?_
    refine E.l2i (q := 14) X0 hx (hb hby d6_13) ?_
    refine Ends.callS X0 hx hZ hown (hw _ (List.mem_of_getElem? (i := 26) rfl)) (hw _ (List.mem_of_getElem? (i := 27) rfl)) (hw _ (List.mem_of_getElem? (i := 28) rfl)) (hw _ (List.mem_of_getElem? (i := 29) rfl)) (by decide) (argsL := [(.int (g0.toInt32))]) (rest := [(.int (32 : Int32))]) e0 (rm7 l Z a0 hw (g0.toInt32) h0 (own_lo_ne hhi hg0)) (W := 1) (by decide) (by decide) (by rw [hml]; rfl) (lenOf pd_1 rfl) (Nat.le_of_eq rfl) (hb hby d6_14) (by decide) (by decide) rfl ?_
    rintro T2 v2 L2 X2 ⟨z2, rfl, hz2, e2, rfl⟩
    show Ends p e below s _ _ _ T2 (mkF m 17 #[.val (.long g0), .second, .val (.int (((g0.toUInt64 >>> ((32 : Int32) &&& 0x3f).toInt64.toUInt64).toInt64).toInt32))] [(.int z2), (.int (32 : Int32))])
    rw [List.append_nil] at X2
    refine E.iadd (q := 18) X2 hx (hb hby d6_17) ?_
    refine E.goto (q := 25) X2 hx (hb hby d6_18) ?_
    exact Ends.retI X2 hx hlk hret (hb hby d6_25) (by decide) (by decide) ⟨_, rfl, own_z64_lo hhi hz2, e2, rfl⟩
  · refine E.ifY (q := 21) X0 hx (hb hby d6_7) (XT.i0_ne_t hhi) ?_
    refine E.iloadN (q := 22) X0 hx (hb hby d6_21) rfl ?_
    refine Ends.callS X0 hx hZ hown (hw _ (List.mem_of_getElem? (i := 26) rfl)) (hw _ (List.mem_of_getElem? (i := 27) rfl)) (hw _ (List.mem_of_getElem? (i := 28) rfl)) (hw _ (List.mem_of_getElem? (i := 29) rfl)) (by decide) (argsL := [(.int (((g0.toUInt64 >>> ((32 : Int32) &&& 0x3f).toInt64.toUInt64).toInt64).toInt32))]) (rest := []) e0 (rm7 l Z a0 hw (((g0.toUInt64 >>> ((32 : Int32) &&& 0x3f).toInt64.toUInt64).toInt64).toInt32) h0 hhi) (W := 0) (by decide) (by decide) (by rw [hml]; rfl) (lenOf pd_1 rfl) (Nat.le_of_eq rfl) (hb hby d6_22) (by decide) (by decide) rfl ?_
    rintro T3 v3 L3 X3 ⟨z3, rfl, hz3, e3, rfl⟩
    show Ends p e below s _ _ _ T3 (mkF m 25 #[.val (.long g0), .second, .val (.int (((g0.toUInt64 >>> ((32 : Int32) &&& 0x3f).toInt64.toUInt64).toInt64).toInt32))] [(.int z3)])
    rw [List.append_nil] at X3
    exact Ends.retI X3 hx hlk hret (hb hby d6_25) (by decide) (by decide) ⟨_, rfl, own_z64_hi hz3, e3, rfl⟩
theorem ef_5 (m : MethodId) (x0 : Int64) : entryFrame m #[(.long x0)] 2 = mkF m 0 #[.val (.long x0), .second] [] := by first | (simp [entryFrame, mkF, argsToLocals, Value.category]; done) | rfl
set_option maxRecDepth 65536 in
set_option maxHeartbeats 40000000 in
theorem rm5 (l : Launch) (Z : State) (a0 : Array Value) (hw : ∀ d ∈ tables_1, d.before a0 Z = true) (g0 : Int64) (h0 : Heap) (hg0 : own_N g0 ≠ 0) :
    Con l (⟨"java/lang/Long", "highestOneBit", "(J)J"⟩ : MethodName) jdk_35_method_46_code 2 (some .long) [] ({ frames := 2, cells := 0, slots := 0, locals := 33 } : Room) #[(.long g0)] Z h0 (fun v h L => ∃ z, v = some (.long (own_hob g0 z)) ∧ own_z64 g0 z ∧ h = h0 ∧ L = []) := by
  refine Con.of (plainFor_of_name pn_1) ?_
  intro p e s m below meth c s₁ hx hZ hby hml hown hnm hret hlk X0 e0
  refine Ends.cast (ef_5 m g0) ?_
  show Ends p e below s _ _ _ s₁ (mkF m 0 #[.val (.long g0), .second] [])
  refine E.lloadN (q := 1) X0 hx (hb hby d5_0) rfl ?_
  refine E.ldc2 (q := 4) X0 hx hZ hown (hw _ (List.mem_of_getElem? (i := 22) rfl)) (hb hby d5_1) ?_
  refine E.lloadN (q := 5) X0 hx (hb hby d5_4) rfl ?_
  refine Ends.callS X0 hx hZ hown (hw _ (List.mem_of_getElem? (i := 23) rfl)) (hw _ (List.mem_of_getElem? (i := 24) rfl)) (hw _ (List.mem_of_getElem? (i := 14) rfl)) (hw _ (List.mem_of_getElem? (i := 25) rfl)) (by decide) (argsL := [(.long g0)]) (rest := [(.long (-9223372036854775808 : Int64)), (.long g0)]) e0 (rm6 l Z a0 hw g0 h0 hg0) (W := 4) (by decide) (by decide) (by rw [hml]; rfl) (lenOf pd_2 rfl) (Nat.le_of_eq rfl) (hb hby d5_5) (by decide) (by decide) rfl ?_
  rintro T4 v4 L4 X4 ⟨z4, rfl, hz4, e4, rfl⟩
  show Ends p e below s _ _ _ T4 (mkF m 8 #[.val (.long g0), .second] [(.int z4), (.long (-9223372036854775808 : Int64)), (.long g0)])
  rw [List.append_nil] at X4
  refine E.lushr (q := 9) X4 hx (hb hby d5_8) ?_
  refine E.land (q := 10) X4 hx (hb hby d5_9) ?_
  exact Ends.retJ X4 hx hlk hret (hb hby d5_10) (by decide) (by decide) ⟨_, rfl, hz4, e4, rfl⟩
theorem ef_1 (m : MethodId) (x0 : Int64) : entryFrame m #[(.long x0)] 4 = mkF m 0 #[.val (.long x0), .second, .unset, .unset] [] := by first | (simp [entryFrame, mkF, argsToLocals, Value.category]; done) | rfl
set_option maxRecDepth 65536 in
set_option maxHeartbeats 40000000 in
theorem rm1 (l : Launch) (Z : State) (a0 : Array Value) (hw : ∀ d ∈ tables_1, d.before a0 Z = true) (n0 : Int64) (h0 : Heap) (hn0 : 0 ≤ n0.toInt) :
    Con l (⟨"com/example/people_in_groups/peopleingroups/model/CountTree", "root", "(J)J"⟩ : MethodName) prog_1_method_5_code 4 (some .long) [] ({ frames := 3, cells := 0, slots := 0, locals := 48 } : Room) #[(.long n0)] Z h0 (fun v h L => ∃ r, v = some (.long r) ∧ own_rootP n0 r ∧ h = h0 ∧ L = []) := by
  refine Con.of (plainFor_of_name pn_0) ?_
  intro p e s m below meth c s₁ hx hZ hby hml hown hnm hret hlk X0 e0
  refine Ends.cast (ef_1 m n0) ?_
  show Ends p e below s _ _ _ s₁ (mkF m 0 #[.val (.long n0), .second, .unset, .unset] [])
  refine E.lloadN (q := 1) X0 hx (hb hby d1_0) rfl ?_
  refine Ends.callS X0 hx hZ hown (hw _ (List.mem_of_getElem? (i := 5) rfl)) (hw _ (List.mem_of_getElem? (i := 6) rfl)) (hw _ (List.mem_of_getElem? (i := 3) rfl)) (hw _ (List.mem_of_getElem? (i := 7) rfl)) (by decide) (argsL := [(.long n0)]) (rest := []) e0 (rm2 l Z a0 hw n0 h0) (W := 0) (by decide) (by decide) (by rw [hml]; rfl) (lenOf pd_0 rfl) (Nat.le_of_eq rfl) (hb hby d1_1) (by decide) (by decide) rfl ?_
  rintro T5 v5 L5 X5 ⟨rfl, e5, rfl⟩
  show Ends p e below s _ _ _ T5 (mkF m 4 #[.val (.long n0), .second, .unset, .unset] [(.long (own_leaf n0))])
  rw [List.append_nil] at X5
  refine E.lstoreN (q := 5) (l' := #[.val (.long n0), .second, .val (.long (own_leaf n0)), .second]) X5 hx (hb hby d1_4) rfl ?_
  refine E.lloadN (q := 6) X5 hx (hb hby d1_5) rfl ?_
  refine Ends.callS X5 hx hZ hown (hw _ (List.mem_of_getElem? (i := 12) rfl)) (hw _ (List.mem_of_getElem? (i := 13) rfl)) (hw _ (List.mem_of_getElem? (i := 14) rfl)) (hw _ (List.mem_of_getElem? (i := 15) rfl)) (by decide) (argsL := [(.long (own_leaf n0))]) (rest := []) e5 (rm4 l Z a0 hw (own_leaf n0) h0) (W := 0) (by decide) (by decide) (by rw [hml]; rfl) (lenOf pd_2 rfl) (Nat.le_of_eq rfl) (hb hby d1_6) (by decide) (by decide) rfl ?_
  rintro T6 v6 L6 X6 ⟨rfl, e6, rfl⟩
  show Ends p e below s _ _ _ T6 (mkF m 9 #[.val (.long n0), .second, .val (.long (own_leaf n0)), .second] [(.int (own_bc (own_leaf n0)))])
  rw [List.append_nil] at X6
  refine E.iconst (q := 10) (v := (1 : Int32)) X6 hx (hb hby d1_9) rfl ?_
  by_cases hbc : (own_bc (own_leaf n0)) = (1 : Int32)
  · refine E.icmpN (q := 13) X6 hx (hb hby d1_10) (XT.ii_ne_f hbc) ?_
    refine E.lloadN (q := 14) X6 hx (hb hby d1_13) rfl ?_
    refine E.goto (q := 25) X6 hx (hb hby d1_14) ?_
    exact Ends.retJ X6 hx hlk hret (hb hby d1_25) (by decide) (by decide) ⟨_, rfl, own_root_one hn0 hbc, e6, rfl⟩
  · refine E.icmpY (q := 17) X6 hx (hb hby d1_10) (XT.ii_ne_t hbc) ?_
    refine E.lloadN (q := 18) X6 hx (hb hby d1_17) rfl ?_
    refine Ends.callS X6 hx hZ hown (hw _ (List.mem_of_getElem? (i := 19) rfl)) (hw _ (List.mem_of_getElem? (i := 20) rfl)) (hw _ (List.mem_of_getElem? (i := 14) rfl)) (hw _ (List.mem_of_getElem? (i := 21) rfl)) (by decide) (argsL := [(.long (own_leaf n0))]) (rest := []) e6 (rm5 l Z a0 hw (own_leaf n0) h0 (own_leaf_ne hn0)) (W := 0) (by decide) (by decide) (by rw [hml]; rfl) (lenOf pd_0 rfl) (Nat.le_of_eq rfl) (hb hby d1_18) (by decide) (by decide) rfl ?_
    rintro T7 v7 L7 X7 ⟨z7, rfl, hz7, e7, rfl⟩
    show Ends p e below s _ _ _ T7 (mkF m 21 #[.val (.long n0), .second, .val (.long (own_leaf n0)), .second] [(.long (own_hob (own_leaf n0) z7))])
    rw [List.append_nil] at X7
    refine E.ldc2 (q := 24) X7 hx hZ hown (hw _ (List.mem_of_getElem? (i := 31) rfl)) (hb hby d1_21) ?_
    refine E.lmul (q := 25) X7 hx (hb hby d1_24) ?_
    exact Ends.retJ X7 hx hlk hret (hb hby d1_25) (by decide) (by decide) ⟨_, rfl, own_root_two hn0 hbc hz7, e7, rfl⟩
theorem ef_0 (m : MethodId) (x0 : Int64) (x1 : Int32) : entryFrame m #[(.long x0), (.int x1)] maxLocals = mkF m 0 #[.val (.long x0), .second, .val (.int x1), .unset, .unset, .unset, .unset, .unset, .unset, .unset, .unset, .unset] [] := by first | (simp [entryFrame, mkF, argsToLocals, Value.category, maxLocals]; done) | rfl
set_option maxRecDepth 65536 in
set_option maxHeartbeats 40000000 in
theorem rm0 (l : Launch) (Z : State) (a0 : Array Value) (hw : ∀ d ∈ tables_1, d.before a0 Z = true) (xx : Int64) (ss : Int32) (h0 : Heap) :
    Con l x code maxLocals ret tables_1 room_1 #[(.long xx), (.int ss)] Z h0 (fun v h L => v = some (.int 1) ∧ Fr h0.size L) := by
  refine Con.of (plainFor_of_name pn_3) ?_
  intro p e s m below meth c s₁ hx hZ hby hml hown hnm hret hlk X0 e0
  refine Ends.cast (ef_0 m xx ss) ?_
  show Ends p e below s _ _ _ s₁ (mkF m 0 #[.val (.long xx), .second, .val (.int ss), .unset, .unset, .unset, .unset, .unset, .unset, .unset, .unset, .unset] [])
  refine E.lloadN (q := 1) X0 hx (hb hby at_0) rfl ?_
  refine E.ldc2 (q := 4) X0 hx hZ hown (hw _ (List.mem_of_getElem? (i := 0) rfl)) (hb hby at_1) ?_
  refine E.land (q := 5) X0 hx (hb hby at_4) ?_
  refine E.iloadN (q := 6) X0 hx (hb hby at_5) rfl ?_
  refine E.bipush (q := 8) (v := (63 : Int32)) X0 hx (hb hby at_6) rfl ?_
  refine E.iand (q := 9) X0 hx (hb hby at_8) ?_
  refine E.lushr (q := 10) X0 hx (hb hby at_9) ?_
  obtain ⟨nn, hnn⟩ : ∃ z, z = (((xx &&& (9223372036854775807 : Int64)).toUInt64 >>> ((ss &&& (63 : Int32)) &&& 0x3f).toInt64.toUInt64).toInt64) := ⟨_, rfl⟩
  rw [← hnn]
  have hn0 := own_n_of hnn
  refine E.lstoreN (q := 11) (l' := #[.val (.long xx), .second, .val (.int ss), .val (.long nn), .second, .unset, .unset, .unset, .unset, .unset, .unset, .unset]) X0 hx (hb hby at_10) rfl ?_
  refine E.lloadN (q := 12) X0 hx (hb hby at_11) rfl ?_
  refine Ends.callS X0 hx hZ hown (hw _ (List.mem_of_getElem? (i := 1) rfl)) (hw _ (List.mem_of_getElem? (i := 2) rfl)) (hw _ (List.mem_of_getElem? (i := 3) rfl)) (hw _ (List.mem_of_getElem? (i := 4) rfl)) (by decide) (argsL := [(.long nn)]) (rest := []) e0 (rm1 l Z a0 hw nn h0 hn0) (W := 0) (by decide) (by decide) (by rw [hml]; rfl) (lenOf pd_0 rfl) (Nat.le_of_eq rfl) (hb hby at_12) (by decide) (by decide) rfl ?_
  rintro T8 v8 L8 X8 ⟨r8, rfl, hr8, e8, rfl⟩
  show Ends p e below s _ _ _ T8 (mkF m 15 #[.val (.long xx), .second, .val (.int ss), .val (.long nn), .second, .unset, .unset, .unset, .unset, .unset, .unset, .unset] [(.long r8)])
  rw [List.append_nil] at X8
  refine E.lstore (q := 17) (l' := #[.val (.long xx), .second, .val (.int ss), .val (.long nn), .second, .val (.long r8), .second, .unset, .unset, .unset, .unset, .unset]) X8 hx (hb hby at_15) rfl ?_
  refine E.lloadN (q := 18) X8 hx (hb hby at_17) rfl ?_
  refine E.lconst (q := 19) (v := (1 : Int64)) X8 hx (hb hby at_18) rfl ?_
  refine E.lsub (q := 20) X8 hx (hb hby at_19) ?_
  refine E.lstore (q := 22) (l' := #[.val (.long xx), .second, .val (.int ss), .val (.long nn), .second, .val (.long r8), .second, .val (.long (nn - (1 : Int64))), .second, .unset, .unset, .unset]) X8 hx (hb hby at_20) rfl ?_
  refine E.lload (q := 24) X8 hx (hb hby at_22) rfl ?_
  refine E.lconst (q := 25) (v := (0 : Int64)) X8 hx (hb hby at_24) rfl ?_
  refine E.lcmp (q := 26) X8 hx (hb hby at_25) ?_
  refine E.ifN (q := 29) X8 hx (hb hby at_26) (XT.i0_le_f ((lw_gt _ _).mpr hr8.1)) ?_
  refine E.lload (q := 31) X8 hx (hb hby at_29) rfl ?_
  refine E.lload (q := 33) X8 hx (hb hby at_31) rfl ?_
  refine E.lconst (q := 34) (v := (1 : Int64)) X8 hx (hb hby at_33) rfl ?_
  refine E.lsub (q := 35) X8 hx (hb hby at_34) ?_
  refine E.land (q := 36) X8 hx (hb hby at_35) ?_
  refine E.lconst (q := 37) (v := (0 : Int64)) X8 hx (hb hby at_36) rfl ?_
  refine E.lcmp (q := 38) X8 hx (hb hby at_37) ?_
  refine E.ifN (q := 41) X8 hx (hb hby at_38) (XT.i0_ne_f ((lw_eq _ _).mpr hr8.2.1)) ?_
  refine E.iconst (q := 42) (v := (1 : Int32)) X8 hx (hb hby at_41) rfl ?_
  refine E.goto (q := 46) X8 hx (hb hby at_42) ?_
  refine E.istore (q := 48) (l' := #[.val (.long xx), .second, .val (.int ss), .val (.long nn), .second, .val (.long r8), .second, .val (.long (nn - (1 : Int64))), .second, .val (.int (1 : Int32)), .unset, .unset]) X8 hx (hb hby at_46) rfl ?_
  refine E.lload (q := 50) X8 hx (hb hby at_48) rfl ?_
  refine E.iconst (q := 51) (v := (4 : Int32)) X8 hx (hb hby at_50) rfl ?_
  refine E.lshr (q := 52) X8 hx (hb hby at_51) ?_
  refine E.lload (q := 54) X8 hx (hb hby at_52) rfl ?_
  refine E.lcmp (q := 55) X8 hx (hb hby at_54) ?_
  refine E.ifN (q := 58) X8 hx (hb hby at_55) (XT.i0_ge_f ((lw_lt _ _).mpr hr8.2.2.1)) ?_
  refine E.iconst (q := 59) (v := (1 : Int32)) X8 hx (hb hby at_58) rfl ?_
  refine E.goto (q := 63) X8 hx (hb hby at_59) ?_
  refine E.istore (q := 65) (l' := #[.val (.long xx), .second, .val (.int ss), .val (.long nn), .second, .val (.long r8), .second, .val (.long (nn - (1 : Int64))), .second, .val (.int (1 : Int32)), .val (.int (1 : Int32)), .unset]) X8 hx (hb hby at_63) rfl ?_
  refine E.lload (q := 67) X8 hx (hb hby at_65) rfl ?_
  refine E.lconst (q := 68) (v := (1 : Int64)) X8 hx (hb hby at_67) rfl ?_
  refine E.lcmp (q := 69) X8 hx (hb hby at_68) ?_
  rcases hr8.2.2.2 with hs | hs
  · refine E.ifY (q := 82) X8 hx (hb hby at_69) (XT.i0_eq_t ((lw_eq _ _).mpr hs)) ?_
    refine E.iconst (q := 83) (v := (1 : Int32)) X8 hx (hb hby at_82) rfl ?_
    refine E.goto (q := 87) X8 hx (hb hby at_83) ?_
    refine E.istore (q := 89) (l' := #[.val (.long xx), .second, .val (.int ss), .val (.long nn), .second, .val (.long r8), .second, .val (.long (nn - (1 : Int64))), .second, .val (.int (1 : Int32)), .val (.int (1 : Int32)), .val (.int (1 : Int32))]) X8 hx (hb hby at_87) rfl ?_
    refine E.iload (q := 91) X8 hx (hb hby at_89) rfl ?_
    refine E.ifN (q := 94) X8 hx (hb hby at_91) (XT.i0_eq_f (by decide)) ?_
    refine E.iload (q := 96) X8 hx (hb hby at_94) rfl ?_
    refine E.ifN (q := 99) X8 hx (hb hby at_96) (XT.i0_eq_f (by decide)) ?_
    refine E.iload (q := 101) X8 hx (hb hby at_99) rfl ?_
    refine E.ifN (q := 104) X8 hx (hb hby at_101) (XT.i0_eq_f (by decide)) ?_
    refine E.iconst (q := 105) (v := (1 : Int32)) X8 hx (hb hby at_104) rfl ?_
    refine E.goto (q := 109) X8 hx (hb hby at_105) ?_
    exact Ends.retS X8 hx hlk hret (by simp) rfl (hb hby at_109) (by decide) (by decide) ⟨rfl, Fr.nil _⟩
  · by_cases h1 : r8 = (1 : Int64)
    · refine E.ifY (q := 82) X8 hx (hb hby at_69) (XT.i0_eq_t ((lw_eq _ _).mpr h1)) ?_
      refine E.iconst (q := 83) (v := (1 : Int32)) X8 hx (hb hby at_82) rfl ?_
      refine E.goto (q := 87) X8 hx (hb hby at_83) ?_
      refine E.istore (q := 89) (l' := #[.val (.long xx), .second, .val (.int ss), .val (.long nn), .second, .val (.long r8), .second, .val (.long (nn - (1 : Int64))), .second, .val (.int (1 : Int32)), .val (.int (1 : Int32)), .val (.int (1 : Int32))]) X8 hx (hb hby at_87) rfl ?_
      refine E.iload (q := 91) X8 hx (hb hby at_89) rfl ?_
      refine E.ifN (q := 94) X8 hx (hb hby at_91) (XT.i0_eq_f (by decide)) ?_
      refine E.iload (q := 96) X8 hx (hb hby at_94) rfl ?_
      refine E.ifN (q := 99) X8 hx (hb hby at_96) (XT.i0_eq_f (by decide)) ?_
      refine E.iload (q := 101) X8 hx (hb hby at_99) rfl ?_
      refine E.ifN (q := 104) X8 hx (hb hby at_101) (XT.i0_eq_f (by decide)) ?_
      refine E.iconst (q := 105) (v := (1 : Int32)) X8 hx (hb hby at_104) rfl ?_
      refine E.goto (q := 109) X8 hx (hb hby at_105) ?_
      exact Ends.retS X8 hx hlk hret (by simp) rfl (hb hby at_109) (by decide) (by decide) ⟨rfl, Fr.nil _⟩
    · refine E.ifN (q := 72) X8 hx (hb hby at_69) (XT.i0_eq_f (fun q => h1 ((lw_eq _ _).mp q))) ?_
      refine E.lload (q := 74) X8 hx (hb hby at_72) rfl ?_
      refine E.iconst (q := 75) (v := (3 : Int32)) X8 hx (hb hby at_74) rfl ?_
      refine E.lshr (q := 76) X8 hx (hb hby at_75) ?_
      refine E.lload (q := 78) X8 hx (hb hby at_76) rfl ?_
      refine E.lcmp (q := 79) X8 hx (hb hby at_78) ?_
      refine E.ifN (q := 82) X8 hx (hb hby at_79) (XT.i0_lt_f (fun q => hs ((lw_lt _ _).mp q))) ?_
      refine E.iconst (q := 83) (v := (1 : Int32)) X8 hx (hb hby at_82) rfl ?_
      refine E.goto (q := 87) X8 hx (hb hby at_83) ?_
      refine E.istore (q := 89) (l' := #[.val (.long xx), .second, .val (.int ss), .val (.long nn), .second, .val (.long r8), .second, .val (.long (nn - (1 : Int64))), .second, .val (.int (1 : Int32)), .val (.int (1 : Int32)), .val (.int (1 : Int32))]) X8 hx (hb hby at_87) rfl ?_
      refine E.iload (q := 91) X8 hx (hb hby at_89) rfl ?_
      refine E.ifN (q := 94) X8 hx (hb hby at_91) (XT.i0_eq_f (by decide)) ?_
      refine E.iload (q := 96) X8 hx (hb hby at_94) rfl ?_
      refine E.ifN (q := 99) X8 hx (hb hby at_96) (XT.i0_eq_f (by decide)) ?_
      refine E.iload (q := 101) X8 hx (hb hby at_99) rfl ?_
      refine E.ifN (q := 104) X8 hx (hb hby at_101) (XT.i0_eq_f (by decide)) ?_
      refine E.iconst (q := 105) (v := (1 : Int32)) X8 hx (hb hby at_104) rfl ?_
      refine E.goto (q := 109) X8 hx (hb hby at_105) ?_
      exact Ends.retS X8 hx hlk hret (by simp) rfl (hb hby at_109) (by decide) (by decide) ⟨rfl, Fr.nil _⟩
set_option maxRecDepth 65536 in
set_option maxHeartbeats 40000000 in
theorem comes_1 {Post : Tables → Env → Array Value → State → Outcome → State → Prop} (hpost : ∀ tb e args s v u, (limb_1_1.after args s (.returned v) u = true ∧ limb_1_2.after args s (.returned v) u = true) → FrameEnd s (.returned v) u (Jvm.fieldLocs frame_1_writes args s ++ Jvm.arrayLocs frame_1_arrays args s ++ Jvm.staticLocs frame_1_statics s) 0 0 → Post tb e args s (.returned v) u) :
    ArmFor flags0 classFile x code maxLocals ret World_1 tables_1 room_1 Calls_1 rest_1 Pre_1 Post := by
  intro l hfl _ _ p e ha hc hk s m args below hf hA hF happ hP
  obtain ⟨hcalls, hrest, hpre⟩ := hP
  obtain ⟨-, -, -, hnamed, -, -, -, hat⟩ := (Spec.applies_iff hf).mp happ
  obtain ⟨hg, hn⟩ := and_e (Cond.before_iff.mp (show (Jvm.Cond.and given_1 narrow_1).before args s = true from hpre))
  obtain ⟨g0, hg⟩ := and_e hg
  obtain ⟨ga0, hg⟩ := and_e hg
  obtain ⟨w0, w1, rfl⟩ : ∃ w0 w1 : Value, args = #[w0, w1] := by
    have hs : args.size = 2 := by simpa [Cond.value, given_1] using g0
    obtain ⟨L⟩ := args
    match L, hs with
    | [w0, w1], _ => exact ⟨w0, w1, rfl⟩
  have hw := fun d (hd : d ∈ tables_1) => atoms_spec (ws := Jvm.Cond.code x code maxLocals ret :: tables_1) hat d (List.mem_cons_of_mem _ hd)
  obtain ⟨i0, ei0⟩ := isL_v ga0
  obtain rfl : w0 = (.long i0) := Option.some.inj ei0
  obtain ⟨i1, ei1⟩ := is_v hg
  obtain rfl : w1 = (.int i1) := Option.some.inj ei1
  obtain ⟨n, o, h1, h2, h3, _, L, rfl, ⟨rfl, N⟩, hq⟩ := rm0 l s _ hw i0 i1 s.heap p e ha hc hk s m _ below hf ((Spec.applies_iff_loose hf).mp happ).1 ⟨rfl, State.Warmed39.refl s, rfl⟩ trivial
  exact ⟨n, _, h1, h2, h3, hpost _ _ _ _ _ _ ⟨Cond.after_iff.mpr rfl, Cond.after_iff.mpr (eq_i res_at (Term.int_eval (1)) rfl)⟩ ⟨hq.1, hq.2.1, (hq.2.2.sift fun y hy => Or.inr (N y hy)).mono (by decide) (by decide)⟩⟩
theorem main_1_1 : Claimed_1_1 := comes_1 fun _ _ _ _ _ _ h hF => ⟨h.1, hF⟩
theorem main_1_2 : Claimed_1_2 := comes_1 fun _ _ _ _ _ _ h hF => ⟨h.2, hF⟩
end Jvm.Pilot.@@N@@
namespace Jvm.Pilot.@@N@@
open Jvm Jvm.ClassFile Sem Op Lib Jvm.Free Jvm.Stand Jvm.Pilot.@@N@@.Jvm.D
/-! MADE BY PROGRAM (witnessworld.py) out of the Statement's table words and the real class files: 15 classes; the members and pool entries that the words name. The judged class is class 1, her method 1. -/
namespace start1
open Jvm.ClassFile
def u (s : String) : CpInfo := .utf8 (stringToUtf16 s)
/-- a pool by its gaps: so many unusable entries, then the entry; so many at the end -/
def gap : Nat → List CpInfo → List CpInfo
  | 0, r => r
  | n + 1, r => .unusable :: gap n r
def poolList (es : List (Nat × CpInfo)) (last : Nat) : List CpInfo := es.foldr (fun e r => gap e.1 (e.2 :: r)) (gap last [])
def pool (es : List (Nat × CpInfo)) (last : Nat) : Array CpInfo := ⟨poolList es last⟩
def fileOf (pool : Array CpInfo) (this : Nat) (attrs : Array Attribute := #[]) (ms : Array MethodInfo := #[]) (fl : Nat := 33) (sup : Nat := 0) (ifs : Array Nat := #[]) (fds : Array FieldInfo := #[]) : ClassFile where
  minorVersion := 0
  majorVersion := 65
  constantPool := pool
  accessFlags := fl
  thisClass := this
  superClass := sup
  interfaces := ifs
  fields := fds
  methods := ms
  attributes := attrs
def plain (name : String) (sup : Option ClassId) : Class where
  name := name
  kind := .ordinary
  loader := none
  accessFlags := 33
  super := sup
  interfaces := #[]
  cf := none
  fields := #[]
  methods := #[]
  instanceTypes := #[]
  staticTypes := #[]
  resolved := #[]
  callSites := []
  init := .initialized
  statics := none
  mirror := none

def pool0 : Array CpInfo := pool [(5, u "<init>"), (0, u "()V"), (1, .class_ 10), (1, u "java/lang/Object")] 113

def k0m0 : Method := { name := "<init>", desc := "()V", sig := { parameters := [], returnType := none }, accessFlags := 1, code := none }
/-- java/lang/Object -/
def k0 : Class := { plain "java/lang/Object" none with
  accessFlags := 33
  interfaces := #[]
  cf := some (fileOf pool0 8 #[] #[{ accessFlags := 1, nameIndex := 5, descriptorIndex := 6, attributes := #[] }] 33 0 #[] #[])
  fields := #[]
  methods := #[k0m0]
  instanceTypes := #[]
  staticTypes := #[]
  resolved := Array.replicate 124 none
  statics := none }

def pool1 : Array CpInfo := pool [(2, .class_ 4), (1, u "java/lang/Object"), (0, u "<init>"), (0, u "()V"), (2, .long 9223372036854775807), (1, .methodref 12 13), (0, .class_ 14), (0, .nameAndType 15 16), (0, u "com/example/people_in_groups/peopleingroups/model/CountTree"), (0, u "root"), (0, u "(J)J"), (0, .class_ 18), (0, u "com/example/people_in_groups/peopleingroups/model/CountTreeRootPinLaw"), (2, u "law"), (0, u "(JI)Z")] 3

def k1m0 : Method := { name := "<init>", desc := "()V", sig := { parameters := [], returnType := none }, accessFlags := 2, code := none }
def k1c1 : Code := { maxStack := 6, maxLocals := 12, code := code, exceptionTable := #[], attributes := #[] }
def k1m1 : Method := { name := "law", desc := "(JI)Z", sig := { parameters := [.long, .int], returnType := some .boolean }, accessFlags := 9, code := some k1c1 }
/-- com/example/people_in_groups/peopleingroups/model/CountTreeRootPinLaw -/
def k1 : Class := { plain "com/example/people_in_groups/peopleingroups/model/CountTreeRootPinLaw" (some 0) with
  accessFlags := 49
  interfaces := #[]
  cf := some (fileOf pool1 17 #[] #[{ accessFlags := 2, nameIndex := 5, descriptorIndex := 6, attributes := #[] }, { accessFlags := 9, nameIndex := 21, descriptorIndex := 22, attributes := #[] }] 49 2 #[] #[])
  fields := #[]
  methods := #[k1m0, k1m1]
  instanceTypes := #[]
  staticTypes := #[]
  resolved := Array.replicate 26 none
  statics := none }

def pool2 : Array CpInfo := pool [(2, .class_ 4), (1, u "java/lang/Object"), (0, u "<init>"), (0, u "()V"), (0, .class_ 8), (0, u "com/example/people_in_groups/peopleingroups/model/CountTree"), (0, .long 16), (1, .methodref 7 12), (0, .nameAndType 13 14), (0, u "leafOf"), (0, u "(J)J"), (0, .methodref 7 16), (0, .nameAndType 17 14), (0, u "lastLeaf"), (0, .methodref 19 20), (0, .class_ 21), (0, .nameAndType 22 23), (0, u "java/lang/Long"), (0, u "bitCount"), (0, u "(J)I"), (0, .methodref 19 25), (0, .nameAndType 26 14), (0, u "highestOneBit"), (0, .long 2), (8, .class_ 38), (1, u "com/example/people_in_groups/peopleingroups/model/CountTree$Nodes"), (10, .class_ 50), (0, u "com/example/people_in_groups/peopleingroups/model/CountTree$Position"), (6, u "LEAF_SIZE"), (0, u "I"), (4, u "root"), (13, .class_ 78), (0, u "com/example/people_in_groups/peopleingroups/model/CountTree$Changes")] 4

def k2m0 : Method := { name := "<init>", desc := "()V", sig := { parameters := [], returnType := none }, accessFlags := 2, code := none }
def k2c1 : Code := { maxStack := 4, maxLocals := 2, code := prog_1_method_2_code, exceptionTable := #[], attributes := #[] }
def k2m1 : Method := { name := "leafOf", desc := "(J)J", sig := { parameters := [.long], returnType := some .long }, accessFlags := 8, code := some k2c1 }
def k2c2 : Code := { maxStack := 4, maxLocals := 2, code := prog_1_method_4_code, exceptionTable := #[], attributes := #[] }
def k2m2 : Method := { name := "lastLeaf", desc := "(J)J", sig := { parameters := [.long], returnType := some .long }, accessFlags := 10, code := some k2c2 }
def k2c3 : Code := { maxStack := 4, maxLocals := 4, code := prog_1_method_5_code, exceptionTable := #[], attributes := #[] }
def k2m3 : Method := { name := "root", desc := "(J)J", sig := { parameters := [.long], returnType := some .long }, accessFlags := 8, code := some k2c3 }
/-- com/example/people_in_groups/peopleingroups/model/CountTree -/
def k2 : Class := { plain "com/example/people_in_groups/peopleingroups/model/CountTree" (some 0) with
  accessFlags := 32
  interfaces := #[]
  cf := some (fileOf pool2 7 #[.nestMembers #[77, 49, 36]] #[{ accessFlags := 2, nameIndex := 5, descriptorIndex := 6, attributes := #[] }, { accessFlags := 8, nameIndex := 13, descriptorIndex := 14, attributes := #[] }, { accessFlags := 10, nameIndex := 17, descriptorIndex := 14, attributes := #[] }, { accessFlags := 8, nameIndex := 63, descriptorIndex := 14, attributes := #[] }] 32 2 #[] #[{ accessFlags := 24, nameIndex := 57, descriptorIndex := 58, attributes := #[] }])
  fields := #[{ name := "LEAF_SIZE", type := .int, accessFlags := 24, slot := 0, constantValue := 0 }]
  methods := #[k2m0, k2m1, k2m2, k2m3]
  instanceTypes := #[]
  staticTypes := #[.int]
  resolved := Array.replicate 83 none
  statics := none }

def pool3 : Array CpInfo := pool [(1, .class_ 2), (0, u "java/io/Serializable"), (0, .class_ 4), (0, u "java/lang/Object")] 2

/-- java/io/Serializable -/
def k3 : Class := { plain "java/io/Serializable" (some 0) with
  accessFlags := 1537
  interfaces := #[]
  cf := some (fileOf pool3 1 #[] #[] 1537 3 #[] #[])
  fields := #[]
  methods := #[]
  instanceTypes := #[]
  staticTypes := #[]
  resolved := Array.replicate 7 none
  statics := none }

def pool4 : Array CpInfo := pool [(2, .class_ 4), (1, u "java/lang/Object"), (0, u "<init>"), (0, u "()V"), (1, .class_ 10), (1, u "java/lang/Number"), (2, .class_ 14), (0, u "java/io/Serializable"), (0, u "serialVersionUID"), (0, u "J")] 20

def k4m0 : Method := { name := "<init>", desc := "()V", sig := { parameters := [], returnType := none }, accessFlags := 1, code := none }
/-- java/lang/Number -/
def k4 : Class := { plain "java/lang/Number" (some 0) with
  accessFlags := 1057
  interfaces := #[3]
  cf := some (fileOf pool4 8 #[] #[{ accessFlags := 1, nameIndex := 5, descriptorIndex := 6, attributes := #[] }] 1057 2 #[13] #[{ accessFlags := 26, nameIndex := 15, descriptorIndex := 16, attributes := #[] }])
  fields := #[{ name := "serialVersionUID", type := .long, accessFlags := 26, slot := 0, constantValue := 0 }]
  methods := #[k4m0]
  instanceTypes := #[]
  staticTypes := #[.long]
  resolved := Array.replicate 37 none
  statics := none }

def pool5 : Array CpInfo := pool [(1, .class_ 2), (0, u "java/lang/Comparable"), (0, .class_ 4), (0, u "java/lang/Object")] 7

/-- java/lang/Comparable -/
def k5 : Class := { plain "java/lang/Comparable" (some 0) with
  accessFlags := 1537
  interfaces := #[]
  cf := some (fileOf pool5 1 #[] #[] 1537 3 #[] #[])
  fields := #[]
  methods := #[]
  instanceTypes := #[]
  staticTypes := #[]
  resolved := Array.replicate 12 none
  statics := none }

def pool6 : Array CpInfo := pool [(1, .class_ 2), (0, u "java/lang/constant/Constable"), (0, .class_ 4), (0, u "java/lang/Object")] 6

/-- java/lang/constant/Constable -/
def k6 : Class := { plain "java/lang/constant/Constable" (some 0) with
  accessFlags := 1537
  interfaces := #[]
  cf := some (fileOf pool6 1 #[] #[] 1537 3 #[] #[])
  fields := #[]
  methods := #[]
  instanceTypes := #[]
  staticTypes := #[]
  resolved := Array.replicate 11 none
  statics := none }

def pool7 : Array CpInfo := pool [(1, .class_ 2), (0, u "java/lang/constant/ConstantDesc"), (0, .class_ 4), (0, u "java/lang/Object")] 32

/-- java/lang/constant/ConstantDesc -/
def k7 : Class := { plain "java/lang/constant/ConstantDesc" (some 0) with
  accessFlags := 1537
  interfaces := #[]
  cf := some (fileOf pool7 1 #[] #[] 1537 3 #[] #[])
  fields := #[]
  methods := #[]
  instanceTypes := #[]
  staticTypes := #[]
  resolved := Array.replicate 37 none
  statics := none }

def pool8 : Array CpInfo := pool [(1, .class_ 2), (0, u "java/lang/Long"), (15, .class_ 20), (1, u "java/lang/Integer"), (77, .methodref 1 99), (0, .nameAndType 100 101), (0, u "numberOfLeadingZeros"), (0, u "(J)I"), (66, .long 9223372036854775808), (66, .class_ 237), (1, u "java/lang/Long$LongCache"), (33, .class_ 272), (0, u "java/lang/Number"), (2, u "value"), (0, u "J"), (31, .methodref 18 309), (0, .nameAndType 100 310), (0, u "(I)I"), (3, .long 6148914691236517205), (1, .long 3689348814741910323), (1, .long 1085102592571150095), (4, u "(J)J"), (37, u "TYPE"), (0, u "Ljava/lang/Class;"), (0, .class_ 364), (0, u "java/lang/Comparable"), (0, .class_ 366), (0, u "java/lang/constant/Constable"), (0, .class_ 368), (0, u "java/lang/constant/ConstantDesc"), (0, u "MIN_VALUE"), (1, u "MAX_VALUE"), (4, u "SIZE"), (0, u "I"), (1, u "BYTES"), (1, u "serialVersionUID"), (92, u "highestOneBit"), (1, u "bitCount")] 47

def k8c0 : Code := { maxStack := 6, maxLocals := 2, code := jdk_35_method_46_code, exceptionTable := #[], attributes := #[] }
def k8m0 : Method := { name := "highestOneBit", desc := "(J)J", sig := { parameters := [.long], returnType := some .long }, accessFlags := 9, code := some k8c0 }
def k8c1 : Code := { maxStack := 3, maxLocals := 3, code := jdk_35_method_48_code, exceptionTable := #[], attributes := #[] }
def k8m1 : Method := { name := "numberOfLeadingZeros", desc := "(J)I", sig := { parameters := [.long], returnType := some .int }, accessFlags := 9, code := some k8c1 }
def k8c2 : Code := { maxStack := 6, maxLocals := 2, code := jdk_35_method_50_code, exceptionTable := #[], attributes := #[] }
def k8m2 : Method := { name := "bitCount", desc := "(J)I", sig := { parameters := [.long], returnType := some .int }, accessFlags := 9, code := some k8c2 }
/-- java/lang/Long -/
def k8 : Class := { plain "java/lang/Long" (some 4) with
  accessFlags := 49
  interfaces := #[5, 6, 7]
  cf := some (fileOf pool8 1 #[.nestMembers #[235]] #[{ accessFlags := 9, nameIndex := 474, descriptorIndex := 323, attributes := #[] }, { accessFlags := 9, nameIndex := 100, descriptorIndex := 101, attributes := #[] }, { accessFlags := 9, nameIndex := 476, descriptorIndex := 101, attributes := #[] }] 49 271 #[363, 365, 367] #[{ accessFlags := 25, nameIndex := 369, descriptorIndex := 276, attributes := #[] }, { accessFlags := 25, nameIndex := 371, descriptorIndex := 276, attributes := #[] }, { accessFlags := 25, nameIndex := 361, descriptorIndex := 362, attributes := #[] }, { accessFlags := 18, nameIndex := 275, descriptorIndex := 276, attributes := #[] }, { accessFlags := 25, nameIndex := 376, descriptorIndex := 377, attributes := #[] }, { accessFlags := 25, nameIndex := 379, descriptorIndex := 377, attributes := #[] }, { accessFlags := 26, nameIndex := 381, descriptorIndex := 276, attributes := #[] }])
  fields := #[{ name := "MIN_VALUE", type := .long, accessFlags := 25, slot := 0, constantValue := 0 }, { name := "MAX_VALUE", type := .long, accessFlags := 25, slot := 1, constantValue := 0 }, { name := "TYPE", type := (.object "java/lang/Class"), accessFlags := 25, slot := 2, constantValue := 0 }, { name := "value", type := .long, accessFlags := 18, slot := 0, constantValue := 0 }, { name := "SIZE", type := .int, accessFlags := 25, slot := 3, constantValue := 0 }, { name := "BYTES", type := .int, accessFlags := 25, slot := 4, constantValue := 0 }, { name := "serialVersionUID", type := .long, accessFlags := 26, slot := 5, constantValue := 0 }]
  methods := #[k8m0, k8m1, k8m2]
  instanceTypes := #[.long]
  staticTypes := #[.long, .long, (.object "java/lang/Class"), .int, .int, .long]
  resolved := Array.replicate 524 none
  statics := none }

def pool9 : Array CpInfo := pool [(1, .class_ 2), (0, u "java/lang/Integer"), (16, u "digits"), (0, u "[C"), (32, u "numberOfLeadingZeros"), (0, u "(I)I"), (30, u "DigitOnes"), (0, u "[B"), (2, u "DigitTens"), (99, .class_ 190), (0, u "java/lang/Integer$IntegerCache"), (3, u "I"), (8, .class_ 204), (0, u "java/lang/Number"), (2, u "value"), (56, .integer 65536), (37, u "TYPE"), (0, u "Ljava/lang/Class;"), (0, .class_ 305), (0, u "java/lang/Comparable"), (0, .class_ 307), (0, u "java/lang/constant/Constable"), (0, .class_ 309), (0, u "java/lang/constant/ConstantDesc"), (0, u "MIN_VALUE"), (1, u "MAX_VALUE"), (3, u "SIZE"), (1, u "BYTES"), (1, u "serialVersionUID"), (0, u "J")] 131

def k9c0 : Code := { maxStack := 3, maxLocals := 2, code := jdk_33_method_47_code, exceptionTable := #[], attributes := #[] }
def k9m0 : Method := { name := "numberOfLeadingZeros", desc := "(I)I", sig := { parameters := [.int], returnType := some .int }, accessFlags := 9, code := some k9c0 }
/-- java/lang/Integer -/
def k9 : Class := { plain "java/lang/Integer" (some 4) with
  accessFlags := 49
  interfaces := #[5, 6, 7]
  cf := some (fileOf pool9 1 #[.nestMembers #[189]] #[{ accessFlags := 9, nameIndex := 53, descriptorIndex := 54, attributes := #[] }] 49 203 #[304, 306, 308] #[{ accessFlags := 25, nameIndex := 310, descriptorIndex := 194, attributes := #[] }, { accessFlags := 25, nameIndex := 312, descriptorIndex := 194, attributes := #[] }, { accessFlags := 25, nameIndex := 302, descriptorIndex := 303, attributes := #[] }, { accessFlags := 24, nameIndex := 19, descriptorIndex := 20, attributes := #[] }, { accessFlags := 24, nameIndex := 89, descriptorIndex := 86, attributes := #[] }, { accessFlags := 24, nameIndex := 85, descriptorIndex := 86, attributes := #[] }, { accessFlags := 18, nameIndex := 207, descriptorIndex := 194, attributes := #[] }, { accessFlags := 25, nameIndex := 316, descriptorIndex := 194, attributes := #[] }, { accessFlags := 25, nameIndex := 318, descriptorIndex := 194, attributes := #[] }, { accessFlags := 26, nameIndex := 320, descriptorIndex := 321, attributes := #[] }])
  fields := #[{ name := "MIN_VALUE", type := .int, accessFlags := 25, slot := 0, constantValue := 0 }, { name := "MAX_VALUE", type := .int, accessFlags := 25, slot := 1, constantValue := 0 }, { name := "TYPE", type := (.object "java/lang/Class"), accessFlags := 25, slot := 2, constantValue := 0 }, { name := "digits", type := (.array .char), accessFlags := 24, slot := 3, constantValue := 0 }, { name := "DigitTens", type := (.array .byte), accessFlags := 24, slot := 4, constantValue := 0 }, { name := "DigitOnes", type := (.array .byte), accessFlags := 24, slot := 5, constantValue := 0 }, { name := "value", type := .int, accessFlags := 18, slot := 0, constantValue := 0 }, { name := "SIZE", type := .int, accessFlags := 25, slot := 6, constantValue := 0 }, { name := "BYTES", type := .int, accessFlags := 25, slot := 7, constantValue := 0 }, { name := "serialVersionUID", type := .long, accessFlags := 26, slot := 8, constantValue := 0 }]
  methods := #[k9m0]
  instanceTypes := #[.int]
  staticTypes := #[.int, .int, (.object "java/lang/Class"), (.array .char), (.array .byte), (.array .byte), .int, .int, .long]
  resolved := Array.replicate 453 none
  statics := none }

def pool10 : Array CpInfo := pool [(1, u "java/lang/Cloneable"), (0, .class_ 1), (0, u "java/lang/Object"), (0, .class_ 3)] 3

/-- java/lang/Cloneable -/
def k10 : Class := { plain "java/lang/Cloneable" (some 0) with
  accessFlags := 1537
  interfaces := #[]
  cf := some (fileOf pool10 2 #[] #[] 1537 4 #[] #[])
  fields := #[]
  methods := #[]
  instanceTypes := #[]
  staticTypes := #[]
  resolved := Array.replicate 8 none
  statics := none }

/-- the primitive byte -/
def k11 : Class := { plain "byte" none with kind := .primitive 'B', accessFlags := 0x411 }
/-- [B -/
def k12 : Class := { plain "[B" (some 0) with kind := .array 11 .byte, interfaces := #[10, 3], accessFlags := 1041 }

/-- the primitive int -/
def k13 : Class := { plain "int" none with kind := .primitive 'I', accessFlags := 0x411 }
/-- [I -/
def k14 : Class := { plain "[I" (some 0) with kind := .array 13 .int, interfaces := #[10, 3], accessFlags := 1041 }

def heap : Heap := #[]
def classes : Array Class := #[k0, k1, k2, k3, k4, k5, k6, k7, k8, k9, k10, k11, k12, k13, k14]
def interned : List (Array UInt16 × Addr) := []
def slotsUsed : Nat := 0
def theMethod : MethodId := ⟨1, 1⟩
def args0 : Array Value := #[.long 5, .int 2]
def aboutOver (below : List Frame) : State where
  vm := { classes := classes, interned := interned.toArray }
  heap := heap
  slotsUsed := slotsUsed
  threads := #[{ frames := .invoking theMethod args0 :: below }]
def below0 : List Frame := [.native { method := ⟨0, 0⟩, args := #[] }]
def about1 : State := aboutOver below0
def p0 : Program := .bare "" "" ""
def e0 : Env := launch0.env 0 0 0
theorem w_frames : about1.frames = Frame.invoking theMethod args0 :: below0 := rfl
set_option maxRecDepth 65536 in
theorem w_args : argsFit about1.vm theMethod args0 = true := by decide +kernel
set_option maxRecDepth 65536 in
theorem w_heap : heapFits about1 = true := by decide +kernel
set_option maxRecDepth 65536 in
theorem w_runnable : about1.curStatus? = some .runnable := by decide +kernel
set_option maxRecDepth 65536 in
theorem w_alone : about1.alone = true := by decide +kernel
set_option maxRecDepth 65536 in
theorem w_named : about1.methodNamed? x = some theMethod := by decide +kernel
set_option maxRecDepth 65536 in
theorem w_hears : about1.hears theMethod below0 = true := by decide +kernel
set_option maxRecDepth 65536 in
theorem w_ripe : about1.ripe theMethod args0 below0 = true := by decide +kernel
theorem w_running : about1.status = .running := rfl
set_option maxRecDepth 65536 in
theorem w_room : about1.hasRoom e0.platform room_1 = true :=
  launch0.hasRoom_least _ room_1 (by decide +kernel) (by decide +kernel) (by decide +kernel) (by decide +kernel) (by decide +kernel) (by decide +kernel)
theorem allAtoms_all (ts : List Jvm.Cond) (a : Array Jvm.Value) (st : Jvm.State) : (allAtoms ts).before a st = ts.all (fun c => c.before a st) := by
  induction ts with
  | nil => rfl
  | cons c t ih =>
    show (Jvm.Cond.and c (allAtoms t)).before a st = _
    rw [Jvm.Cond.before_and, ih, List.all_cons]
def words1 : List Jvm.Cond := Jvm.Cond.code x code maxLocals ret :: tables_1
/-- a 'code' word, met by the world's own term for the bytes: nothing is compared byte by byte -/
theorem code_word {y : MethodName} {bytes : ByteArray} {mx : Nat} {rt : Option FieldType} {a : Array Value} {s : State} {m : MethodId} {meth : Method} {c : Code} (h1 : s.methodNamed? y = some m) (h2 : s.vm.method? m = some meth) (h3 : meth.code = some c) (h4 : c.code = bytes)
    (h5 : (c.maxLocals == mx && c.exceptionTable.isEmpty && decide (c.maxStack ≤ mostOperands) && decide (meth.sig.returnType = rt) && !meth.locks && decide (parseMethodDescriptor y.desc = some meth.sig)) = true) : (Jvm.Cond.code y bytes mx rt).before a s = true := by
  simp only [Bool.and_eq_true, beq_iff_eq, Bool.not_eq_true', decide_eq_true_eq] at h5
  obtain ⟨⟨⟨⟨⟨g1, g2⟩, g3⟩, g4⟩, g5⟩, g6⟩ := h5
  simp [Cond.before, Cond.holds, Cond.value, h1, h2, h3, h4, g1, g2, g3, g4, g5, g6]
def isCode : Jvm.Cond → Bool
  | .code _ _ _ _ => true
  | _ => false
theorem all_split {L : List Jvm.Cond} {P : Jvm.Cond → Bool} (h1 : L.all (fun c => isCode c || P c) = true) (h2 : ∀ c ∈ L.filter isCode, P c = true) : L.all P = true := by
  refine List.all_eq_true.mpr fun c hc => ?_
  have h := List.all_eq_true.mp h1 c hc
  rcases Bool.eq_false_or_eq_true (isCode c) with hi | hi
  · exact h2 c (List.mem_filter.mpr ⟨hc, hi⟩)
  · simpa [hi] using h
set_option maxRecDepth 65536 in
theorem w_c0 : (Jvm.Cond.code x code maxLocals ret).before args0 about1 = true := code_word (m := ⟨1, 1⟩) (meth := k1m1) (c := k1c1) (by decide +kernel) rfl rfl rfl (by decide +kernel)
set_option maxRecDepth 65536 in
theorem w_c1 : (Jvm.Cond.code ({ cls := "com/example/people_in_groups/peopleingroups/model/CountTree", name := "root", desc := "(J)J" } : Jvm.MethodName) prog_1_method_5_code (4 : Nat) (Option.some Jvm.ClassFile.FieldType.long)).before args0 about1 = true := code_word (m := ⟨2, 3⟩) (meth := k2m3) (c := k2c3) (by decide +kernel) rfl rfl rfl (by decide +kernel)
set_option maxRecDepth 65536 in
theorem w_c2 : (Jvm.Cond.code ({ cls := "com/example/people_in_groups/peopleingroups/model/CountTree", name := "lastLeaf", desc := "(J)J" } : Jvm.MethodName) prog_1_method_4_code (2 : Nat) (Option.some Jvm.ClassFile.FieldType.long)).before args0 about1 = true := code_word (m := ⟨2, 2⟩) (meth := k2m2) (c := k2c2) (by decide +kernel) rfl rfl rfl (by decide +kernel)
set_option maxRecDepth 65536 in
theorem w_c3 : (Jvm.Cond.code ({ cls := "com/example/people_in_groups/peopleingroups/model/CountTree", name := "leafOf", desc := "(J)J" } : Jvm.MethodName) prog_1_method_2_code (2 : Nat) (Option.some Jvm.ClassFile.FieldType.long)).before args0 about1 = true := code_word (m := ⟨2, 1⟩) (meth := k2m1) (c := k2c1) (by decide +kernel) rfl rfl rfl (by decide +kernel)
set_option maxRecDepth 65536 in
theorem w_c4 : (Jvm.Cond.code ({ cls := "java/lang/Long", name := "bitCount", desc := "(J)I" } : Jvm.MethodName) jdk_35_method_50_code (2 : Nat) (Option.some Jvm.ClassFile.FieldType.int)).before args0 about1 = true := code_word (m := ⟨8, 2⟩) (meth := k8m2) (c := k8c2) (by decide +kernel) rfl rfl rfl (by decide +kernel)
set_option maxRecDepth 65536 in
theorem w_c5 : (Jvm.Cond.code ({ cls := "java/lang/Long", name := "highestOneBit", desc := "(J)J" } : Jvm.MethodName) jdk_35_method_46_code (2 : Nat) (Option.some Jvm.ClassFile.FieldType.long)).before args0 about1 = true := code_word (m := ⟨8, 0⟩) (meth := k8m0) (c := k8c0) (by decide +kernel) rfl rfl rfl (by decide +kernel)
set_option maxRecDepth 65536 in
theorem w_c6 : (Jvm.Cond.code ({ cls := "java/lang/Long", name := "numberOfLeadingZeros", desc := "(J)I" } : Jvm.MethodName) jdk_35_method_48_code (3 : Nat) (Option.some Jvm.ClassFile.FieldType.int)).before args0 about1 = true := code_word (m := ⟨8, 1⟩) (meth := k8m1) (c := k8c1) (by decide +kernel) rfl rfl rfl (by decide +kernel)
set_option maxRecDepth 65536 in
theorem w_c7 : (Jvm.Cond.code ({ cls := "java/lang/Integer", name := "numberOfLeadingZeros", desc := "(I)I" } : Jvm.MethodName) jdk_33_method_47_code (2 : Nat) (Option.some Jvm.ClassFile.FieldType.int)).before args0 about1 = true := code_word (m := ⟨9, 0⟩) (meth := k9m0) (c := k9c0) (by decide +kernel) rfl rfl rfl (by decide +kernel)
def codes1 : List Jvm.Cond := [Jvm.Cond.code x code maxLocals ret, Jvm.Cond.code ({ cls := "com/example/people_in_groups/peopleingroups/model/CountTree", name := "root", desc := "(J)J" } : Jvm.MethodName) prog_1_method_5_code (4 : Nat) (Option.some Jvm.ClassFile.FieldType.long), Jvm.Cond.code ({ cls := "com/example/people_in_groups/peopleingroups/model/CountTree", name := "lastLeaf", desc := "(J)J" } : Jvm.MethodName) prog_1_method_4_code (2 : Nat) (Option.some Jvm.ClassFile.FieldType.long), Jvm.Cond.code ({ cls := "com/example/people_in_groups/peopleingroups/model/CountTree", name := "leafOf", desc := "(J)J" } : Jvm.MethodName) prog_1_method_2_code (2 : Nat) (Option.some Jvm.ClassFile.FieldType.long), Jvm.Cond.code ({ cls := "java/lang/Long", name := "bitCount", desc := "(J)I" } : Jvm.MethodName) jdk_35_method_50_code (2 : Nat) (Option.some Jvm.ClassFile.FieldType.int), Jvm.Cond.code ({ cls := "java/lang/Long", name := "highestOneBit", desc := "(J)J" } : Jvm.MethodName) jdk_35_method_46_code (2 : Nat) (Option.some Jvm.ClassFile.FieldType.long), Jvm.Cond.code ({ cls := "java/lang/Long", name := "numberOfLeadingZeros", desc := "(J)I" } : Jvm.MethodName) jdk_35_method_48_code (3 : Nat) (Option.some Jvm.ClassFile.FieldType.int), Jvm.Cond.code ({ cls := "java/lang/Integer", name := "numberOfLeadingZeros", desc := "(I)I" } : Jvm.MethodName) jdk_33_method_47_code (2 : Nat) (Option.some Jvm.ClassFile.FieldType.int)]
set_option maxRecDepth 65536 in
theorem codes_eq : words1.filter isCode = codes1 := rfl
theorem w_codes : ∀ c ∈ words1.filter isCode, c.before args0 about1 = true := by
  rw [codes_eq]
  intro c hc
  simp only [codes1, List.mem_cons, List.not_mem_nil, or_false] at hc
  rcases hc with rfl | rfl | rfl | rfl | rfl | rfl | rfl | rfl
  · exact w_c0
  · exact w_c1
  · exact w_c2
  · exact w_c3
  · exact w_c4
  · exact w_c5
  · exact w_c6
  · exact w_c7
set_option maxRecDepth 65536 in
theorem w_t1 : (words1.take 24).all (fun c => isCode c || c.before args0 about1) = true := by decide +kernel
set_option maxRecDepth 65536 in
theorem w_t2 : (words1.drop 24).all (fun c => isCode c || c.before args0 about1) = true := by decide +kernel
theorem w_tables : (allAtoms (Jvm.Cond.code x code maxLocals ret :: tables_1)).before args0 about1 = true := by
  rw [allAtoms_all]
  show words1.all (fun c => c.before args0 about1) = true
  refine all_split ?_ w_codes
  rw [← List.take_append_drop 24 words1, List.all_append, w_t1, w_t2]
  rfl
set_option maxRecDepth 65536 in
theorem w_case : (Jvm.Cond.and given_1 narrow_1).before args0 about1 = true := by decide +kernel
theorem w_applies : (headSpec (Jvm.Cond.code x code maxLocals ret :: tables_1) room_1).applies x e0.platform about1 = true :=
  (Spec.applies_iff w_frames).mpr ⟨w_running, w_runnable, w_alone, w_named, w_hears, w_ripe, w_room, w_tables⟩
theorem atStart : AtStart classFile x code maxLocals ret World_1 tables_1 room_1 Calls_1 rest_1 Pre_1 launch0 p0 e0 about1 theMethod args0 below0 :=
  ⟨lists_1, trivial, launch0.admits_env _ _ _, launch0.least_env, fairChoices_fair.cas, fairChoices_fair.clock, w_frames, w_args, w_heap, w_applies, trivial, trivial, w_case⟩
end start1
theorem witness_1 : WitnessClaimed_1 := ⟨start1.p0, start1.e0, start1.about1, start1.theMethod, start1.args0, start1.below0, start1.atStart⟩
end Jvm.Pilot.@@N@@
