import JvmDerived
import JvmDerived.Pilot.@@N@@Statement
import JvmDerived.Pilot.@@N@@Code
set_option linter.unusedVariables false
set_option linter.unusedSimpArgs false

namespace Jvm.Pilot.@@N@@
open Jvm Jvm.ClassFile Sem Op Lib Jvm.Free Jvm.Stand Jvm.LawKit Jvm.RoadKit Bundle Jvm.Pilot.@@N@@.Jvm.D
/-! own text: the run of a body in continuation form -/
section OwnKit
variable {p : Program} {l : Launch} {e : Env} {R : Room} {s : State} {m : MethodId} {args : Array Value} {below : List Frame} {meth : Method} {c : Code} {T : State} {locs : List Loc} {cells slots : Nat} {Z : State} {a0 : Array Value} {h : Heap} {Qb : Option Value → Heap → List Loc → Prop} {kc ks : Nat}
/-- from the state T with the frame g on top the run comes to the end of the body, and there Qb holds -/
def Ends (p : Program) (e : Env) (below : List Frame) (s : State) (Qb : Option Value → Heap → List Loc → Prop) (kc ks : Nat) (T : State) (g : JFrame) : Prop :=
  ∃ s₂ o, Steps p.tables e below (T.setTop g) s₂ ∧ s₂.status = .running ∧ Ended s₂ below o ∧ ∃ v L, o = .returned v ∧ Qb v s₂.heap L ∧ FrameEnd s o s₂ L kc ks
theorem Ends.go {T T' : State} {g g' : JFrame} (h : ∀ t, Steps p.tables e below (T'.setTop g') t → Steps p.tables e below (T.setTop g) t) (k : Ends p e below s Qb kc ks T' g') : Ends p e below s Qb kc ks T g := by
  obtain ⟨s2, o, st, r⟩ := k
  exact ⟨s2, o, h _ st, r⟩
theorem Ends.cast {T : State} {g g' : JFrame} (h : g = g') (k : Ends p e below s Qb kc ks T g') : Ends p e below s Qb kc ks T g := h ▸ k
abbrev Con (l : Launch) (y : MethodName) (code : ByteArray) (ml : Nat) (rt : Option FieldType) (ws : List Jvm.Cond) (rm : Room) (as' : Array Value) (Z : State) (h0 : Heap) (Q : Option Value → Heap → List Loc → Prop) : Prop :=
  MetFree l y (head1 (Jvm.Cond.code y code ml rt :: ws) rm) (fun a U => a = as' ∧ Z.Warmed39 U.vm ∧ U.heap = h0) (fun _ _ _ _ _ => True) (fun _ U o U' => ∃ v L, o = .returned v ∧ Q v U'.heap L ∧ FrameEnd U o U' L rm.cells rm.slots)
theorem Con.of {y : MethodName} {code : ByteArray} {ml : Nat} {rt : Option FieldType} {ws : List Jvm.Cond} {rm : Room} {as' : Array Value} {h0 : Heap} {Q : Option Value → Heap → List Loc → Prop} (hp : plainFor y = true)
    (k : ∀ (p : Program) (e : Env) (s : State) (m : MethodId) (below : List Frame) (meth : Method) (c : Code) (s₁ : State), p.tables.exec = Jvm.exec → Z.Warmed39 s.vm → c.code = code → c.maxLocals = ml → s.vm.findClass y.cls = some m.cls → meth.name = y.name → meth.sig.returnType = rt → meth.locks = false →
      Stand p l e rm s m as' below meth c s₁ [] 0 0 → s₁.heap = h0 → Ends p e below s Q rm.cells rm.slots s₁ (entryFrame m as' ml)) : Con l y code ml rt ws rm as' Z h0 Q := by
  refine MetFree.of_bodySF hp hisR ?_
  intro p e s m args below meth c s₁ Bd hml0 hP hK
  obtain ⟨rfl, hZ, hh⟩ := hP
  exact k p e s m below meth c s₁ Bd.exec hZ Bd.bytes hml0 (findClass_of_methodNamed Bd.named) (name_of_methodNamed Bd.named Bd.method).1 Bd.returns Bd.notSynchronized (Stand.of_body Bd) (by rw [← hh, Bd.state]; rfl)
theorem Ends.ret (X : Stand p l e R s m args below meth c T locs cells slots) (hx : p.tables.exec = Jvm.exec) (hlk : meth.locks = false) {pc : Nat} {Ls : Array Slot} {w : Value} {t : FieldType} {i : Instr} {rest : List Value} (hret : meth.sig.returnType = some t) (hn : narrow t w = w)
    (hi : (i = .ireturn ∧ (t = .int ∨ t = .boolean ∨ t = .byte ∨ t = .char ∨ t = .short) ∧ ∃ z, w = .int z) ∨ (i = .lreturn ∧ t = .long ∧ ∃ z, w = .long z) ∨ (i = .dreturn ∧ t = .double ∧ ∃ z, w = .double z) ∨ (i = .freturn ∧ t = .float ∧ ∃ z, w = .float z) ∨ (i = .areturn ∧ t.isReference = true ∧ w.isRef = true))
    (hd : decode c.code pc = .ok (i, 1)) (hc : cells ≤ kc) (hs : slots ≤ ks) (hQ : Qb (some w) T.heap locs) : Ends p e below s Qb kc ks T (mkF m pc Ls (w :: rest)) := by
  obtain ⟨fs, hr, hrun, hended, hW, hsame⟩ := X.leave (v := some w) (fun h => by rw [hret] at h; cases h) hlk
  exact ⟨_, _, retOut X hx hret hn hi hd hr, hrun, hended, _, _, rfl, hQ, ⟨_, rfl⟩, hW, hsame.mono hc hs⟩
theorem Ends.retI (X : Stand p l e R s m args below meth c T locs cells slots) (hx : p.tables.exec = Jvm.exec) (hlk : meth.locks = false) {pc : Nat} {Ls : Array Slot} {z : Int32} {rest : List Value} (hret : meth.sig.returnType = some .int) (hd : decode c.code pc = .ok (.ireturn, 1)) (hc : cells ≤ kc) (hs : slots ≤ ks) (hQ : Qb (some (.int z)) T.heap locs) : Ends p e below s Qb kc ks T (mkF m pc Ls (.int z :: rest)) :=
  Ends.ret X hx hlk hret rfl (Or.inl ⟨rfl, Or.inl rfl, _, rfl⟩) hd hc hs hQ
theorem Ends.retJ (X : Stand p l e R s m args below meth c T locs cells slots) (hx : p.tables.exec = Jvm.exec) (hlk : meth.locks = false) {pc : Nat} {Ls : Array Slot} {z : Int64} {rest : List Value} (hret : meth.sig.returnType = some .long) (hd : decode c.code pc = .ok (.lreturn, 1)) (hc : cells ≤ kc) (hs : slots ≤ ks) (hQ : Qb (some (.long z)) T.heap locs) : Ends p e below s Qb kc ks T (mkF m pc Ls (.long z :: rest)) :=
  Ends.ret X hx hlk hret rfl (Or.inr (Or.inl ⟨rfl, rfl, _, rfl⟩)) hd hc hs hQ
theorem Ends.retS (X : Stand p l e R s m args below meth c T locs cells slots) (hx : p.tables.exec = Jvm.exec) (hlk : meth.locks = false) {pc : Nat} {Ls : Array Slot} {z : Int32} {t : FieldType} {rest : List Value} (hret : meth.sig.returnType = some t) (ht : t = .boolean ∨ t = .byte ∨ t = .char ∨ t = .short) (hn : narrow t (.int z) = .int z) (hd : decode c.code pc = .ok (.ireturn, 1)) (hc : cells ≤ kc) (hs : slots ≤ ks) (hQ : Qb (some (.int z)) T.heap locs) : Ends p e below s Qb kc ks T (mkF m pc Ls (.int z :: rest)) :=
  Ends.ret X hx hlk hret hn (Or.inl ⟨rfl, Or.inr ht, _, rfl⟩) hd hc hs hQ
theorem Ends.retA (X : Stand p l e R s m args below meth c T locs cells slots) (hx : p.tables.exec = Jvm.exec) (hlk : meth.locks = false) {pc : Nat} {Ls : Array Slot} {w : Value} {t : FieldType} {rest : List Value} (hret : meth.sig.returnType = some t) (ht : t.isReference = true) (hw : w.isRef = true) (hn : narrow t w = w) (hd : decode c.code pc = .ok (.areturn, 1)) (hc : cells ≤ kc) (hs : slots ≤ ks) (hQ : Qb (some w) T.heap locs) : Ends p e below s Qb kc ks T (mkF m pc Ls (w :: rest)) :=
  Ends.ret X hx hlk hret hn (Or.inr (Or.inr (Or.inr (Or.inr ⟨rfl, ht, hw⟩)))) hd hc hs hQ
theorem Ends.retV (X : Stand p l e R s m args below meth c T locs cells slots) (hx : p.tables.exec = Jvm.exec) (hlk : meth.locks = false) {pc : Nat} {Ls : Array Slot} (hret : meth.sig.returnType = none) (hd : decode c.code pc = .ok (.return_, 1)) (hc : cells ≤ kc) (hs : slots ≤ ks) (hQ : Qb none T.heap locs) : Ends p e below s Qb kc ks T (mkF m pc Ls []) := by
  obtain ⟨fs, hr, hrun, hended, hW, hsame⟩ := X.leave (v := none) (fun _ => rfl) hlk
  exact ⟨_, _, X.returnOut hx hret hd hr, hrun, hended, _, _, rfl, hQ, ⟨_, rfl⟩, hW, hsame.mono hc hs⟩
/-- a static call by its contract -/
theorem Ends.callS (X : Stand p l e R s m args below meth c T locs cells slots) (hx : p.tables.exec = Jvm.exec) (hZ : Z.Warmed39 s.vm) {own : String} (hown : s.vm.findClass own = some m.cls) {index : Nat} {y : MethodName} {bytes : ByteArray} {maxL : Nat} {rt : Option FieldType} {rm : Room} {Q : Option Value → Heap → List Loc → Prop}
    (w1 : (Jvm.Cond.methodLink own index y).before a0 Z = true) (w2 : (Jvm.Cond.static y).before a0 Z = true) (w3 : (Jvm.Cond.initialized y.cls).before a0 Z = true) (w4 : (Jvm.Cond.code y bytes maxL rt).before a0 Z = true) (hy : y.cls ≠ "java/lang/invoke/MethodHandle" ∧ y.cls ≠ "java/lang/invoke/VarHandle")
    {argsL rest : List Value} (eT : T.heap = h) (M : Con l y bytes maxL rt [] rm argsL.toArray Z h Q) {W pc : Nat} (hf : rm.frames + 1 ≤ R.frames) (hl : W + (maxL + 11) + rm.locals ≤ R.locals) {Ls : Array Slot} (hsz : Ls.size = c.maxLocals)
    (hlen : ∀ sig, parseMethodDescriptor y.desc = some sig → argsL.length = sig.parameters.length) (hW : (rest.map fun v => v.category).sum ≤ W) (hd : decode c.code pc = .ok (.invokestatic index, 3)) (hc : cells + rm.cells ≤ R.cells) (hs : slots + rm.slots ≤ R.slots) {st : List Value} (hst : st = argsL.reverse ++ rest)
    (k : ∀ T' v L, Stand p l e R s m args below meth c T' (locs ++ L) (cells + rm.cells) (slots + rm.slots) → Q v T'.heap L → Ends p e below s Qb kc ks T' (mkF m (pc + 3) Ls (v.toList ++ rest))) :
    Ends p e below s Qb kc ks T (mkF m pc Ls st) := by
  obtain ⟨v, vm1, ⟨T1, L1, k1, n1⟩, -, X1, ⟨Lc, hQ, q1, q2, q3⟩, st1⟩ := Jvm.LawKit.callS X hx hown (mvT hZ w1) (mvT hZ w2) (mvT hZ w3) (mvT hZ w4) hy (backOf (W := W) M hZ w4 w3 hf hl) (g := mkF m pc Ls st) rfl hsz (argsL := argsL) (rest := rest) hlen hst (by show 2 * 0 + _ ≤ _; omega) hd (fun _ _ => ⟨rfl, eT, hc, hs⟩)
  dsimp only [Pt.U, Pt.locs, Pt.cells, Pt.slots] at X1 q1 q2 q3 st1 hQ
  subst q1 q2 q3
  exact Ends.go st1 (k T1 v Lc X1 hQ)
/-- a constructor by its contract -/
theorem Ends.callI (X : Stand p l e R s m args below meth c T locs cells slots) (hx : p.tables.exec = Jvm.exec) (hZ : Z.Warmed39 s.vm) {own : String} (hown : s.vm.findClass own = some m.cls) {index : Nat} {y : MethodName} {bytes : ByteArray} {maxL : Nat} {rm : Room} {Q : Option Value → Heap → List Loc → Prop}
    (w1 : (Jvm.Cond.methodLink own index y).before a0 Z = true) (w2 : (Jvm.Cond.instanceMethod y).before a0 Z = true) (w3 : (Jvm.Cond.initialized y.cls).before a0 Z = true) (w4 : (Jvm.Cond.code y bytes maxL none).before a0 Z = true) (hyn : y.name = "<init>") (hy : y.cls ≠ "java/lang/invoke/MethodHandle" ∧ y.cls ≠ "java/lang/invoke/VarHandle")
    {b : Addr} {argsL rest : List Value} (eT : T.heap = h) (M : Con l y bytes maxL none [] rm (.ref b :: argsL).toArray Z h Q) {W pc : Nat} (hf : rm.frames + 1 ≤ R.frames) (hl : W + (maxL + 11) + rm.locals ≤ R.locals) {Ls : Array Slot} (hsz : Ls.size = c.maxLocals)
    (hlen : ∀ sig, parseMethodDescriptor y.desc = some sig → argsL.length = sig.parameters.length) (hW : (rest.map fun v => v.category).sum ≤ W) (hd : decode c.code pc = .ok (.invokespecial index, 3)) (hc : cells + rm.cells ≤ R.cells) (hs : slots + rm.slots ≤ R.slots) {st : List Value} (hst : st = argsL.reverse ++ .ref b :: rest)
    (k : ∀ T' v L, Stand p l e R s m args below meth c T' (locs ++ L) (cells + rm.cells) (slots + rm.slots) → Q v T'.heap L → Ends p e below s Qb kc ks T' (mkF m (pc + 3) Ls (v.toList ++ rest))) :
    Ends p e below s Qb kc ks T (mkF m pc Ls st) := by
  obtain ⟨v, vm1, ⟨T1, L1, k1, n1⟩, -, X1, ⟨Lc, hQ, q1, q2, q3⟩, st1⟩ := X.specialBack hx hyn hown (mvT hZ w1) (mvT hZ w2) (mvT hZ w4) hy (backOf (W := W) M hZ w4 w3 hf hl) (g := mkF m pc Ls st) rfl hsz (Steps.refl _) (a := b) (argsL := argsL) (rest := rest) hlen hst (by show 2 * 0 + _ ≤ _; omega) hd (fun _ _ => ⟨rfl, eT, hc, hs⟩)
  dsimp only [Pt.U, Pt.locs, Pt.cells, Pt.slots] at X1 q1 q2 q3 st1 hQ
  subst q1 q2 q3
  exact Ends.go (fun t kt => st1.trans kt) (k T1 v Lc X1 hQ)
/-- an instance method by its contract -/
theorem Ends.callV (X : Stand p l e R s m args below meth c T locs cells slots) (hx : p.tables.exec = Jvm.exec) (hZ : Z.Warmed39 s.vm) {own C : String} (hown : s.vm.findClass own = some m.cls) {index : Nat} {y : MethodName} {bytes : ByteArray} {maxL : Nat} {rt : Option FieldType} {rm : Room} {Q : Option Value → Heap → List Loc → Prop}
    (w1 : (Jvm.Cond.methodLink own index y).before a0 Z = true) (w2 : (Jvm.Cond.declares y).before a0 Z = true) (w5 : (Jvm.Cond.selects C y y).before a0 Z = true) (w6 : (Jvm.Cond.instanceMethod y).before a0 Z = true) (w3 : (Jvm.Cond.initialized y.cls).before a0 Z = true) (w4 : (Jvm.Cond.code y bytes maxL rt).before a0 Z = true) (hy : y.cls ≠ "java/lang/invoke/MethodHandle" ∧ y.cls ≠ "java/lang/invoke/VarHandle")
    {b : Addr} {argsL rest : List Value} (eT : T.heap = h) (E : Exa Z h b C) (M : Con l y bytes maxL rt [] rm (.ref b :: argsL).toArray Z h Q) {W pc : Nat} (hf : rm.frames + 1 ≤ R.frames) (hl : W + (maxL + 11) + rm.locals ≤ R.locals) {Ls : Array Slot} (hsz : Ls.size = c.maxLocals)
    (hlen : ∀ sig, parseMethodDescriptor y.desc = some sig → argsL.length = sig.parameters.length) (hW : (rest.map fun v => v.category).sum ≤ W) (hd : decode c.code pc = .ok (.invokevirtual index, 3)) (hc : cells + rm.cells ≤ R.cells) (hs : slots + rm.slots ≤ R.slots) {st : List Value} (hst : st = argsL.reverse ++ .ref b :: rest)
    (k : ∀ T' v L, Stand p l e R s m args below meth c T' (locs ++ L) (cells + rm.cells) (slots + rm.slots) → Q v T'.heap L → Ends p e below s Qb kc ks T' (mkF m (pc + 3) Ls (v.toList ++ rest))) :
    Ends p e below s Qb kc ks T (mkF m pc Ls st) := by
  obtain ⟨cq, kq, qa, qb, qc⟩ := isOf (T := T) hZ eT E
  obtain ⟨v, vm1, ⟨T1, L1, k1, n1⟩, -, X1, ⟨Lc, hQ, q1, q2, q3⟩, st1⟩ := X.virtualBack hx (y := y) (z := y) hown (mvT hZ w1) (mvT hZ w2) (notFace_of_selects (args := #[]) (mvT hZ w5)) (mvT hZ w5) (mvT hZ w6) hy (backOf (W := W) M hZ w4 w3 hf hl) qa qc (g := mkF m pc Ls st) rfl hsz (Steps.refl _) (argsL := argsL) (rest := rest) hlen hst (by show 2 * 0 + _ ≤ _; omega) hd (fun _ _ => ⟨rfl, eT, hc, hs⟩)
  dsimp only [Pt.U, Pt.locs, Pt.cells, Pt.slots] at X1 q1 q2 q3 st1 hQ
  subst q1 q2 q3
  exact Ends.go (fun t kt => st1.trans kt) (k T1 v Lc X1 hQ)
end OwnKit
/-! own text, printed by mksteps.py: one lemma a plain instruction -/
section OwnSteps
variable {p : Program} {l : Launch} {e : Env} {R : Room} {s : State} {m : MethodId} {args : Array Value} {below : List Frame} {meth : Method} {c : Code} {T : State} {locs : List Loc} {cells slots : Nat} {Z : State} {a0 : Array Value} {h : Heap} {Qb : Option Value → Heap → List Loc → Prop} {kc ks : Nat} {Ls l' : Array Slot} {st : List Value} {pc q k : Nat} {kf : Fin 4} {k2 : Fin 2}
theorem E.iload {v : Int32} (X : Stand p l e R s m args below meth c T locs cells slots) (hx : p.tables.exec = Jvm.exec) (hd : decode c.code pc = .ok (.iload k, 2)) (hl : Ls[k]? = some (.val (.int v))) (k' : Ends p e below s Qb kc ks T (mkF m q Ls (.int v :: st))) (hq : pc + 2 = q := by rfl) : Ends p e below s Qb kc ks T (mkF m pc Ls st) := by
  subst hq; exact Ends.go (fun t => XS.iload X.here hx rfl hd hl) k'
theorem E.iloadN {v : Int32} (X : Stand p l e R s m args below meth c T locs cells slots) (hx : p.tables.exec = Jvm.exec) (hd : decode c.code pc = .ok (.iload_n kf, 1)) (hl : Ls[kf.val]? = some (.val (.int v))) (k' : Ends p e below s Qb kc ks T (mkF m q Ls (.int v :: st))) (hq : pc + 1 = q := by rfl) : Ends p e below s Qb kc ks T (mkF m pc Ls st) := by
  subst hq; exact Ends.go (fun t => XS.iloadN X.here hx rfl hd hl) k'
theorem E.istore {v : Int32} (X : Stand p l e R s m args below meth c T locs cells slots) (hx : p.tables.exec = Jvm.exec) (hd : decode c.code pc = .ok (.istore k, 2)) (hl : storeLocals Ls k (.int v) = some l') (k' : Ends p e below s Qb kc ks T (mkF m q l' st)) (hq : pc + 2 = q := by rfl) : Ends p e below s Qb kc ks T (mkF m pc Ls (.int v :: st)) := by
  subst hq; exact Ends.go (fun t => XS.istore X.here hx rfl hd rfl hl) k'
theorem E.istoreN {v : Int32} (X : Stand p l e R s m args below meth c T locs cells slots) (hx : p.tables.exec = Jvm.exec) (hd : decode c.code pc = .ok (.istore_n kf, 1)) (hl : storeLocals Ls kf.val (.int v) = some l') (k' : Ends p e below s Qb kc ks T (mkF m q l' st)) (hq : pc + 1 = q := by rfl) : Ends p e below s Qb kc ks T (mkF m pc Ls (.int v :: st)) := by
  subst hq; exact Ends.go (fun t => XS.istoreN X.here hx rfl hd rfl hl) k'
theorem E.lload {v : Int64} (X : Stand p l e R s m args below meth c T locs cells slots) (hx : p.tables.exec = Jvm.exec) (hd : decode c.code pc = .ok (.lload k, 2)) (hl : Ls[k]? = some (.val (.long v))) (k' : Ends p e below s Qb kc ks T (mkF m q Ls (.long v :: st))) (hq : pc + 2 = q := by rfl) : Ends p e below s Qb kc ks T (mkF m pc Ls st) := by
  subst hq; exact Ends.go (fun t => XS.lload X.here hx rfl hd hl) k'
theorem E.lloadN {v : Int64} (X : Stand p l e R s m args below meth c T locs cells slots) (hx : p.tables.exec = Jvm.exec) (hd : decode c.code pc = .ok (.lload_n kf, 1)) (hl : Ls[kf.val]? = some (.val (.long v))) (k' : Ends p e below s Qb kc ks T (mkF m q Ls (.long v :: st))) (hq : pc + 1 = q := by rfl) : Ends p e below s Qb kc ks T (mkF m pc Ls st) := by
  subst hq; exact Ends.go (fun t => XS.lloadN X.here hx rfl hd hl) k'
theorem E.lstore {v : Int64} (X : Stand p l e R s m args below meth c T locs cells slots) (hx : p.tables.exec = Jvm.exec) (hd : decode c.code pc = .ok (.lstore k, 2)) (hl : storeLocals Ls k (.long v) = some l') (k' : Ends p e below s Qb kc ks T (mkF m q l' st)) (hq : pc + 2 = q := by rfl) : Ends p e below s Qb kc ks T (mkF m pc Ls (.long v :: st)) := by
  subst hq; exact Ends.go (fun t => XS.lstore X.here hx rfl hd rfl hl) k'
theorem E.lstoreN {v : Int64} (X : Stand p l e R s m args below meth c T locs cells slots) (hx : p.tables.exec = Jvm.exec) (hd : decode c.code pc = .ok (.lstore_n kf, 1)) (hl : storeLocals Ls kf.val (.long v) = some l') (k' : Ends p e below s Qb kc ks T (mkF m q l' st)) (hq : pc + 1 = q := by rfl) : Ends p e below s Qb kc ks T (mkF m pc Ls (.long v :: st)) := by
  subst hq; exact Ends.go (fun t => XS.lstoreN X.here hx rfl hd rfl hl) k'
theorem E.dload {v : UInt64} (X : Stand p l e R s m args below meth c T locs cells slots) (hx : p.tables.exec = Jvm.exec) (hd : decode c.code pc = .ok (.dload k, 2)) (hl : Ls[k]? = some (.val (.double v))) (k' : Ends p e below s Qb kc ks T (mkF m q Ls (.double v :: st))) (hq : pc + 2 = q := by rfl) : Ends p e below s Qb kc ks T (mkF m pc Ls st) := by
  subst hq; exact Ends.go (fun t => XS.dload X.here hx rfl hd hl) k'
theorem E.dloadN {v : UInt64} (X : Stand p l e R s m args below meth c T locs cells slots) (hx : p.tables.exec = Jvm.exec) (hd : decode c.code pc = .ok (.dload_n kf, 1)) (hl : Ls[kf.val]? = some (.val (.double v))) (k' : Ends p e below s Qb kc ks T (mkF m q Ls (.double v :: st))) (hq : pc + 1 = q := by rfl) : Ends p e below s Qb kc ks T (mkF m pc Ls st) := by
  subst hq; exact Ends.go (fun t => XS.dloadN X.here hx rfl hd hl) k'
theorem E.dstore {v : UInt64} (X : Stand p l e R s m args below meth c T locs cells slots) (hx : p.tables.exec = Jvm.exec) (hd : decode c.code pc = .ok (.dstore k, 2)) (hl : storeLocals Ls k (.double v) = some l') (k' : Ends p e below s Qb kc ks T (mkF m q l' st)) (hq : pc + 2 = q := by rfl) : Ends p e below s Qb kc ks T (mkF m pc Ls (.double v :: st)) := by
  subst hq; exact Ends.go (fun t => XS.dstore X.here hx rfl hd rfl hl) k'
theorem E.dstoreN {v : UInt64} (X : Stand p l e R s m args below meth c T locs cells slots) (hx : p.tables.exec = Jvm.exec) (hd : decode c.code pc = .ok (.dstore_n kf, 1)) (hl : storeLocals Ls kf.val (.double v) = some l') (k' : Ends p e below s Qb kc ks T (mkF m q l' st)) (hq : pc + 1 = q := by rfl) : Ends p e below s Qb kc ks T (mkF m pc Ls (.double v :: st)) := by
  subst hq; exact Ends.go (fun t => XS.dstoreN X.here hx rfl hd rfl hl) k'
theorem E.aload {v : Value} (X : Stand p l e R s m args below meth c T locs cells slots) (hx : p.tables.exec = Jvm.exec) (hd : decode c.code pc = .ok (.aload k, 2)) (hl : Ls[k]? = some (.val v)) (hv : v.isRef = true) (k' : Ends p e below s Qb kc ks T (mkF m q Ls (v :: st))) (hq : pc + 2 = q := by rfl) : Ends p e below s Qb kc ks T (mkF m pc Ls st) := by
  subst hq; exact Ends.go (fun t => XS.aload X.here hx rfl hd hl hv) k'
theorem E.aloadN {v : Value} (X : Stand p l e R s m args below meth c T locs cells slots) (hx : p.tables.exec = Jvm.exec) (hd : decode c.code pc = .ok (.aload_n kf, 1)) (hl : Ls[kf.val]? = some (.val v)) (hv : v.isRef = true) (k' : Ends p e below s Qb kc ks T (mkF m q Ls (v :: st))) (hq : pc + 1 = q := by rfl) : Ends p e below s Qb kc ks T (mkF m pc Ls st) := by
  subst hq; exact Ends.go (fun t => XS.aloadN X.here hx rfl hd hl hv) k'
theorem E.astore {v : Value} (X : Stand p l e R s m args below meth c T locs cells slots) (hx : p.tables.exec = Jvm.exec) (hd : decode c.code pc = .ok (.astore k, 2)) (hv : v.isRef = true) (hl : storeLocals Ls k v = some l') (k' : Ends p e below s Qb kc ks T (mkF m q l' st)) (hq : pc + 2 = q := by rfl) : Ends p e below s Qb kc ks T (mkF m pc Ls (v :: st)) := by
  subst hq; exact Ends.go (fun t => XS.astore X.here hx rfl hd rfl hv hl) k'
theorem E.astoreN {v : Value} (X : Stand p l e R s m args below meth c T locs cells slots) (hx : p.tables.exec = Jvm.exec) (hd : decode c.code pc = .ok (.astore_n kf, 1)) (hv : v.isRef = true) (hl : storeLocals Ls kf.val v = some l') (k' : Ends p e below s Qb kc ks T (mkF m q l' st)) (hq : pc + 1 = q := by rfl) : Ends p e below s Qb kc ks T (mkF m pc Ls (v :: st)) := by
  subst hq; exact Ends.go (fun t => XS.astoreN X.here hx rfl hd rfl hv hl) k'
theorem E.iconst {i : Int} {v : Int32} (X : Stand p l e R s m args below meth c T locs cells slots) (hx : p.tables.exec = Jvm.exec) (hd : decode c.code pc = .ok (.iconst i, 1)) (hv : Int32.ofInt i = v) (k' : Ends p e below s Qb kc ks T (mkF m q Ls (.int v :: st))) (hq : pc + 1 = q := by rfl) : Ends p e below s Qb kc ks T (mkF m pc Ls st) := by
  subst hq; subst hv; exact Ends.go (fun t => XS.iconst X.here hx rfl hd) k'
theorem E.bipush {i : Int} {v : Int32} (X : Stand p l e R s m args below meth c T locs cells slots) (hx : p.tables.exec = Jvm.exec) (hd : decode c.code pc = .ok (.bipush i, 2)) (hv : (Int8.ofInt i).toInt32 = v) (k' : Ends p e below s Qb kc ks T (mkF m q Ls (.int v :: st))) (hq : pc + 2 = q := by rfl) : Ends p e below s Qb kc ks T (mkF m pc Ls st) := by
  subst hq; subst hv; exact Ends.go (fun t => XS.bipush X.here hx rfl hd) k'
theorem E.sipush {i : Int} {v : Int32} (X : Stand p l e R s m args below meth c T locs cells slots) (hx : p.tables.exec = Jvm.exec) (hd : decode c.code pc = .ok (.sipush i, 3)) (hv : (Int16.ofInt i).toInt32 = v) (k' : Ends p e below s Qb kc ks T (mkF m q Ls (.int v :: st))) (hq : pc + 3 = q := by rfl) : Ends p e below s Qb kc ks T (mkF m pc Ls st) := by
  subst hq; subst hv; exact Ends.go (fun t => XS.sipush X.here hx rfl hd) k'
theorem E.lconst {v : Int64} (X : Stand p l e R s m args below meth c T locs cells slots) (hx : p.tables.exec = Jvm.exec) (hd : decode c.code pc = .ok (.lconst k2, 1)) (hv : Int64.ofNat k2 = v) (k' : Ends p e below s Qb kc ks T (mkF m q Ls (.long v :: st))) (hq : pc + 1 = q := by rfl) : Ends p e below s Qb kc ks T (mkF m pc Ls st) := by
  subst hq; subst hv; exact Ends.go (fun t => XS.lconst X.here hx rfl hd) k'
theorem E.dconst0 {v : UInt64} (X : Stand p l e R s m args below meth c T locs cells slots) (hx : p.tables.exec = Jvm.exec) (hd : decode c.code pc = .ok (.dconst 0, 1)) (hv : FP.dconst0 = v) (k' : Ends p e below s Qb kc ks T (mkF m q Ls (.double v :: st))) (hq : pc + 1 = q := by rfl) : Ends p e below s Qb kc ks T (mkF m pc Ls st) := by
  subst hq; exact Ends.go (fun t => XS.dconst0 X.here hx rfl hd hv) k'
theorem E.dconst1 {v : UInt64} (X : Stand p l e R s m args below meth c T locs cells slots) (hx : p.tables.exec = Jvm.exec) (hd : decode c.code pc = .ok (.dconst 1, 1)) (hv : FP.dconst1 = v) (k' : Ends p e below s Qb kc ks T (mkF m q Ls (.double v :: st))) (hq : pc + 1 = q := by rfl) : Ends p e below s Qb kc ks T (mkF m pc Ls st) := by
  subst hq; exact Ends.go (fun t => XS.dconst1 X.here hx rfl hd hv) k'
theorem E.aconstNull  (X : Stand p l e R s m args below meth c T locs cells slots) (hx : p.tables.exec = Jvm.exec) (hd : decode c.code pc = .ok (.aconst_null, 1)) (k' : Ends p e below s Qb kc ks T (mkF m q Ls (.null :: st))) (hq : pc + 1 = q := by rfl) : Ends p e below s Qb kc ks T (mkF m pc Ls st) := by
  subst hq; exact Ends.go (fun t => XS.aconstNull X.here hx rfl hd) k'
theorem E.iadd {x y : Int32} (X : Stand p l e R s m args below meth c T locs cells slots) (hx : p.tables.exec = Jvm.exec) (hd : decode c.code pc = .ok (.iadd, 1)) (k' : Ends p e below s Qb kc ks T (mkF m q Ls (.int (x + y) :: st))) (hq : pc + 1 = q := by rfl) : Ends p e below s Qb kc ks T (mkF m pc Ls (.int y :: .int x :: st)) := by
  subst hq; exact Ends.go (fun t => XS.iadd X.here hx rfl hd rfl) k'
theorem E.isub {x y : Int32} (X : Stand p l e R s m args below meth c T locs cells slots) (hx : p.tables.exec = Jvm.exec) (hd : decode c.code pc = .ok (.isub, 1)) (k' : Ends p e below s Qb kc ks T (mkF m q Ls (.int (x - y) :: st))) (hq : pc + 1 = q := by rfl) : Ends p e below s Qb kc ks T (mkF m pc Ls (.int y :: .int x :: st)) := by
  subst hq; exact Ends.go (fun t => XS.isub X.here hx rfl hd rfl) k'
theorem E.imul {x y : Int32} (X : Stand p l e R s m args below meth c T locs cells slots) (hx : p.tables.exec = Jvm.exec) (hd : decode c.code pc = .ok (.imul, 1)) (k' : Ends p e below s Qb kc ks T (mkF m q Ls (.int (x * y) :: st))) (hq : pc + 1 = q := by rfl) : Ends p e below s Qb kc ks T (mkF m pc Ls (.int y :: .int x :: st)) := by
  subst hq; exact Ends.go (fun t => XS.imul X.here hx rfl hd rfl) k'
theorem E.iand {x y : Int32} (X : Stand p l e R s m args below meth c T locs cells slots) (hx : p.tables.exec = Jvm.exec) (hd : decode c.code pc = .ok (.iand, 1)) (k' : Ends p e below s Qb kc ks T (mkF m q Ls (.int (x &&& y) :: st))) (hq : pc + 1 = q := by rfl) : Ends p e below s Qb kc ks T (mkF m pc Ls (.int y :: .int x :: st)) := by
  subst hq; exact Ends.go (fun t => XS.iand X.here hx rfl hd rfl) k'
theorem E.ior {x y : Int32} (X : Stand p l e R s m args below meth c T locs cells slots) (hx : p.tables.exec = Jvm.exec) (hd : decode c.code pc = .ok (.ior, 1)) (k' : Ends p e below s Qb kc ks T (mkF m q Ls (.int (x ||| y) :: st))) (hq : pc + 1 = q := by rfl) : Ends p e below s Qb kc ks T (mkF m pc Ls (.int y :: .int x :: st)) := by
  subst hq; exact Ends.go (fun t => XS.ior X.here hx rfl hd rfl) k'
theorem E.ixor {x y : Int32} (X : Stand p l e R s m args below meth c T locs cells slots) (hx : p.tables.exec = Jvm.exec) (hd : decode c.code pc = .ok (.ixor, 1)) (k' : Ends p e below s Qb kc ks T (mkF m q Ls (.int (x ^^^ y) :: st))) (hq : pc + 1 = q := by rfl) : Ends p e below s Qb kc ks T (mkF m pc Ls (.int y :: .int x :: st)) := by
  subst hq; exact Ends.go (fun t => XS.ixor X.here hx rfl hd rfl) k'
theorem E.ladd {x y : Int64} (X : Stand p l e R s m args below meth c T locs cells slots) (hx : p.tables.exec = Jvm.exec) (hd : decode c.code pc = .ok (.ladd, 1)) (k' : Ends p e below s Qb kc ks T (mkF m q Ls (.long (x + y) :: st))) (hq : pc + 1 = q := by rfl) : Ends p e below s Qb kc ks T (mkF m pc Ls (.long y :: .long x :: st)) := by
  subst hq; exact Ends.go (fun t => XS.ladd X.here hx rfl hd rfl) k'
theorem E.lsub {x y : Int64} (X : Stand p l e R s m args below meth c T locs cells slots) (hx : p.tables.exec = Jvm.exec) (hd : decode c.code pc = .ok (.lsub, 1)) (k' : Ends p e below s Qb kc ks T (mkF m q Ls (.long (x - y) :: st))) (hq : pc + 1 = q := by rfl) : Ends p e below s Qb kc ks T (mkF m pc Ls (.long y :: .long x :: st)) := by
  subst hq; exact Ends.go (fun t => XS.lsub X.here hx rfl hd rfl) k'
theorem E.lmul {x y : Int64} (X : Stand p l e R s m args below meth c T locs cells slots) (hx : p.tables.exec = Jvm.exec) (hd : decode c.code pc = .ok (.lmul, 1)) (k' : Ends p e below s Qb kc ks T (mkF m q Ls (.long (x * y) :: st))) (hq : pc + 1 = q := by rfl) : Ends p e below s Qb kc ks T (mkF m pc Ls (.long y :: .long x :: st)) := by
  subst hq; exact Ends.go (fun t => XS.lmul X.here hx rfl hd rfl) k'
theorem E.land {x y : Int64} (X : Stand p l e R s m args below meth c T locs cells slots) (hx : p.tables.exec = Jvm.exec) (hd : decode c.code pc = .ok (.land, 1)) (k' : Ends p e below s Qb kc ks T (mkF m q Ls (.long (x &&& y) :: st))) (hq : pc + 1 = q := by rfl) : Ends p e below s Qb kc ks T (mkF m pc Ls (.long y :: .long x :: st)) := by
  subst hq; exact Ends.go (fun t => XS.land X.here hx rfl hd rfl) k'
theorem E.lor {x y : Int64} (X : Stand p l e R s m args below meth c T locs cells slots) (hx : p.tables.exec = Jvm.exec) (hd : decode c.code pc = .ok (.lor, 1)) (k' : Ends p e below s Qb kc ks T (mkF m q Ls (.long (x ||| y) :: st))) (hq : pc + 1 = q := by rfl) : Ends p e below s Qb kc ks T (mkF m pc Ls (.long y :: .long x :: st)) := by
  subst hq; exact Ends.go (fun t => XS.lor X.here hx rfl hd rfl) k'
theorem E.lxor {x y : Int64} (X : Stand p l e R s m args below meth c T locs cells slots) (hx : p.tables.exec = Jvm.exec) (hd : decode c.code pc = .ok (.lxor, 1)) (k' : Ends p e below s Qb kc ks T (mkF m q Ls (.long (x ^^^ y) :: st))) (hq : pc + 1 = q := by rfl) : Ends p e below s Qb kc ks T (mkF m pc Ls (.long y :: .long x :: st)) := by
  subst hq; exact Ends.go (fun t => XS.lxor X.here hx rfl hd rfl) k'
theorem E.ishl {x : Int32} {y : Int32} (X : Stand p l e R s m args below meth c T locs cells slots) (hx : p.tables.exec = Jvm.exec) (hd : decode c.code pc = .ok (.ishl, 1)) (k' : Ends p e below s Qb kc ks T (mkF m q Ls (.int (x <<< (y &&& 31)) :: st))) (hq : pc + 1 = q := by rfl) : Ends p e below s Qb kc ks T (mkF m pc Ls (.int y :: .int x :: st)) := by
  subst hq; exact Ends.go (fun t => XS.ishl X.here hx rfl hd rfl) k'
theorem E.ishr {x : Int32} {y : Int32} (X : Stand p l e R s m args below meth c T locs cells slots) (hx : p.tables.exec = Jvm.exec) (hd : decode c.code pc = .ok (.ishr, 1)) (k' : Ends p e below s Qb kc ks T (mkF m q Ls (.int (x >>> (y &&& 31)) :: st))) (hq : pc + 1 = q := by rfl) : Ends p e below s Qb kc ks T (mkF m pc Ls (.int y :: .int x :: st)) := by
  subst hq; exact Ends.go (fun t => XS.ishr X.here hx rfl hd rfl) k'
theorem E.iushr {x : Int32} {y : Int32} (X : Stand p l e R s m args below meth c T locs cells slots) (hx : p.tables.exec = Jvm.exec) (hd : decode c.code pc = .ok (.iushr, 1)) (k' : Ends p e below s Qb kc ks T (mkF m q Ls (.int ((x.toUInt32 >>> (y &&& 31).toUInt32).toInt32) :: st))) (hq : pc + 1 = q := by rfl) : Ends p e below s Qb kc ks T (mkF m pc Ls (.int y :: .int x :: st)) := by
  subst hq; exact Ends.go (fun t => XS.iushr X.here hx rfl hd rfl) k'
theorem E.lshl {x : Int64} {y : Int32} (X : Stand p l e R s m args below meth c T locs cells slots) (hx : p.tables.exec = Jvm.exec) (hd : decode c.code pc = .ok (.lshl, 1)) (k' : Ends p e below s Qb kc ks T (mkF m q Ls (.long (x <<< (y &&& 0x3f).toInt64) :: st))) (hq : pc + 1 = q := by rfl) : Ends p e below s Qb kc ks T (mkF m pc Ls (.int y :: .long x :: st)) := by
  subst hq; exact Ends.go (fun t => XS.lshl X.here hx rfl hd rfl) k'
theorem E.lshr {x : Int64} {y : Int32} (X : Stand p l e R s m args below meth c T locs cells slots) (hx : p.tables.exec = Jvm.exec) (hd : decode c.code pc = .ok (.lshr, 1)) (k' : Ends p e below s Qb kc ks T (mkF m q Ls (.long (x >>> (y &&& 0x3f).toInt64) :: st))) (hq : pc + 1 = q := by rfl) : Ends p e below s Qb kc ks T (mkF m pc Ls (.int y :: .long x :: st)) := by
  subst hq; exact Ends.go (fun t => XS.lshr X.here hx rfl hd rfl) k'
theorem E.lushr {x : Int64} {y : Int32} (X : Stand p l e R s m args below meth c T locs cells slots) (hx : p.tables.exec = Jvm.exec) (hd : decode c.code pc = .ok (.lushr, 1)) (k' : Ends p e below s Qb kc ks T (mkF m q Ls (.long ((x.toUInt64 >>> (y &&& 0x3f).toInt64.toUInt64).toInt64) :: st))) (hq : pc + 1 = q := by rfl) : Ends p e below s Qb kc ks T (mkF m pc Ls (.int y :: .long x :: st)) := by
  subst hq; exact Ends.go (fun t => XS.lushr X.here hx rfl hd rfl) k'
theorem E.ineg {x : Int32} (X : Stand p l e R s m args below meth c T locs cells slots) (hx : p.tables.exec = Jvm.exec) (hd : decode c.code pc = .ok (.ineg, 1)) (k' : Ends p e below s Qb kc ks T (mkF m q Ls (.int (-x) :: st))) (hq : pc + 1 = q := by rfl) : Ends p e below s Qb kc ks T (mkF m pc Ls (.int x :: st)) := by
  subst hq; exact Ends.go (fun t => XS.ineg X.here hx rfl hd rfl) k'
theorem E.lneg {x : Int64} (X : Stand p l e R s m args below meth c T locs cells slots) (hx : p.tables.exec = Jvm.exec) (hd : decode c.code pc = .ok (.lneg, 1)) (k' : Ends p e below s Qb kc ks T (mkF m q Ls (.long (-x) :: st))) (hq : pc + 1 = q := by rfl) : Ends p e below s Qb kc ks T (mkF m pc Ls (.long x :: st)) := by
  subst hq; exact Ends.go (fun t => XS.lneg X.here hx rfl hd rfl) k'
theorem E.i2l {x : Int32} (X : Stand p l e R s m args below meth c T locs cells slots) (hx : p.tables.exec = Jvm.exec) (hd : decode c.code pc = .ok (.i2l, 1)) (k' : Ends p e below s Qb kc ks T (mkF m q Ls (.long (x.toInt64) :: st))) (hq : pc + 1 = q := by rfl) : Ends p e below s Qb kc ks T (mkF m pc Ls (.int x :: st)) := by
  subst hq; exact Ends.go (fun t => XS.i2l X.here hx rfl hd rfl) k'
theorem E.l2i {x : Int64} (X : Stand p l e R s m args below meth c T locs cells slots) (hx : p.tables.exec = Jvm.exec) (hd : decode c.code pc = .ok (.l2i, 1)) (k' : Ends p e below s Qb kc ks T (mkF m q Ls (.int (x.toInt32) :: st))) (hq : pc + 1 = q := by rfl) : Ends p e below s Qb kc ks T (mkF m pc Ls (.long x :: st)) := by
  subst hq; exact Ends.go (fun t => XS.l2i X.here hx rfl hd rfl) k'
theorem E.i2b {x : Int32} (X : Stand p l e R s m args below meth c T locs cells slots) (hx : p.tables.exec = Jvm.exec) (hd : decode c.code pc = .ok (.i2b, 1)) (k' : Ends p e below s Qb kc ks T (mkF m q Ls (.int (x.toInt8.toInt32) :: st))) (hq : pc + 1 = q := by rfl) : Ends p e below s Qb kc ks T (mkF m pc Ls (.int x :: st)) := by
  subst hq; exact Ends.go (fun t => XS.i2b X.here hx rfl hd rfl) k'
theorem E.i2s {x : Int32} (X : Stand p l e R s m args below meth c T locs cells slots) (hx : p.tables.exec = Jvm.exec) (hd : decode c.code pc = .ok (.i2s, 1)) (k' : Ends p e below s Qb kc ks T (mkF m q Ls (.int (x.toInt16.toInt32) :: st))) (hq : pc + 1 = q := by rfl) : Ends p e below s Qb kc ks T (mkF m pc Ls (.int x :: st)) := by
  subst hq; exact Ends.go (fun t => XS.i2s X.here hx rfl hd rfl) k'
theorem E.i2c {x : Int32} (X : Stand p l e R s m args below meth c T locs cells slots) (hx : p.tables.exec = Jvm.exec) (hd : decode c.code pc = .ok (.i2c, 1)) (k' : Ends p e below s Qb kc ks T (mkF m q Ls (.int (x.toUInt32.toUInt16.toUInt32.toInt32) :: st))) (hq : pc + 1 = q := by rfl) : Ends p e below s Qb kc ks T (mkF m pc Ls (.int x :: st)) := by
  subst hq; exact Ends.go (fun t => XS.i2c X.here hx rfl hd rfl) k'
theorem E.i2d {x : Int32} (X : Stand p l e R s m args below meth c T locs cells slots) (hx : p.tables.exec = Jvm.exec) (hd : decode c.code pc = .ok (.i2d, 1)) (k' : Ends p e below s Qb kc ks T (mkF m q Ls (.double (FP.i2d x) :: st))) (hq : pc + 1 = q := by rfl) : Ends p e below s Qb kc ks T (mkF m pc Ls (.int x :: st)) := by
  subst hq; exact Ends.go (fun t => XS.i2dS X.here hx rfl hd rfl rfl) k'
theorem E.lcmp {x y : Int64} (X : Stand p l e R s m args below meth c T locs cells slots) (hx : p.tables.exec = Jvm.exec) (hd : decode c.code pc = .ok (.lcmp, 1)) (k' : Ends p e below s Qb kc ks T (mkF m q Ls (.int (lcmpW x y) :: st))) (hq : pc + 1 = q := by rfl) : Ends p e below s Qb kc ks T (mkF m pc Ls (.long y :: .long x :: st)) := by
  subst hq; exact Ends.go (fun t => XS.lcmp X.here hx rfl hd rfl) k'
theorem E.dcmp {x y : UInt64} {o : CmpOp} (X : Stand p l e R s m args below meth c T locs cells slots) (hx : p.tables.exec = Jvm.exec) (hd : decode c.code pc = .ok (.dcmp o, 1)) (k' : Ends p e below s Qb kc ks T (mkF m q Ls (.int (cmpValue (FP.dcmp x y) o) :: st))) (hq : pc + 1 = q := by rfl) : Ends p e below s Qb kc ks T (mkF m pc Ls (.double y :: .double x :: st)) := by
  subst hq; exact Ends.go (fun t => XS.dcmpS X.here hx rfl hd rfl rfl) k'
theorem E.idiv {x y : Int32} (X : Stand p l e R s m args below meth c T locs cells slots) (hx : p.tables.exec = Jvm.exec) (hd : decode c.code pc = .ok (.idiv, 1)) (hy : ¬ y = 0) (k' : Ends p e below s Qb kc ks T (mkF m q Ls (.int (x / y) :: st))) (hq : pc + 1 = q := by rfl) : Ends p e below s Qb kc ks T (mkF m pc Ls (.int y :: .int x :: st)) := by
  subst hq; exact Ends.go (fun t => XS.idiv X.here hx rfl hd rfl hy) k'
theorem E.irem {x y : Int32} (X : Stand p l e R s m args below meth c T locs cells slots) (hx : p.tables.exec = Jvm.exec) (hd : decode c.code pc = .ok (.irem, 1)) (hy : ¬ y = 0) (k' : Ends p e below s Qb kc ks T (mkF m q Ls (.int (x % y) :: st))) (hq : pc + 1 = q := by rfl) : Ends p e below s Qb kc ks T (mkF m pc Ls (.int y :: .int x :: st)) := by
  subst hq; exact Ends.go (fun t => iremM X hx rfl hd rfl hy) k'
theorem E.ldiv {x y : Int64} (X : Stand p l e R s m args below meth c T locs cells slots) (hx : p.tables.exec = Jvm.exec) (hd : decode c.code pc = .ok (.ldiv, 1)) (hy : ¬ y = 0) (k' : Ends p e below s Qb kc ks T (mkF m q Ls (.long (x / y) :: st))) (hq : pc + 1 = q := by rfl) : Ends p e below s Qb kc ks T (mkF m pc Ls (.long y :: .long x :: st)) := by
  subst hq; exact Ends.go (fun t => XS.ldiv X.here hx rfl hd rfl hy) k'
theorem E.lrem {x y : Int64} (X : Stand p l e R s m args below meth c T locs cells slots) (hx : p.tables.exec = Jvm.exec) (hd : decode c.code pc = .ok (.lrem, 1)) (hy : ¬ y = 0) (k' : Ends p e below s Qb kc ks T (mkF m q Ls (.long (x - (x / y) * y) :: st))) (hq : pc + 1 = q := by rfl) : Ends p e below s Qb kc ks T (mkF m pc Ls (.long y :: .long x :: st)) := by
  subst hq; exact Ends.go (fun t => XS.lrem X.here hx rfl hd rfl hy) k'
theorem E.iinc {x v : Int32} {cst : Int} (X : Stand p l e R s m args below meth c T locs cells slots) (hx : p.tables.exec = Jvm.exec) (hd : decode c.code pc = .ok (.iinc k cst, 3)) (hl : Ls[k]? = some (.val (.int x))) (hv : x + Int32.ofInt cst = v) (hl' : storeLocals Ls k (.int v) = some l') (k' : Ends p e below s Qb kc ks T (mkF m q l' st)) (hq : pc + 3 = q := by rfl) : Ends p e below s Qb kc ks T (mkF m pc Ls st) := by
  subst hq; subst hv; exact Ends.go (fun t => XS.iinc X.here hx rfl hd hl hl') k'
theorem E.dup {v : Value} (X : Stand p l e R s m args below meth c T locs cells slots) (hx : p.tables.exec = Jvm.exec) (hd : decode c.code pc = .ok (.dup, 1)) (hc : v.category = 1) (k' : Ends p e below s Qb kc ks T (mkF m q Ls (v :: v :: st))) (hq : pc + 1 = q := by rfl) : Ends p e below s Qb kc ks T (mkF m pc Ls (v :: st)) := by
  subst hq; exact Ends.go (fun t => XS.dup X.here hx rfl hd rfl hc) k'
theorem E.pop {v : Value} (X : Stand p l e R s m args below meth c T locs cells slots) (hx : p.tables.exec = Jvm.exec) (hd : decode c.code pc = .ok (.pop, 1)) (hc : v.category = 1) (k' : Ends p e below s Qb kc ks T (mkF m q Ls st)) (hq : pc + 1 = q := by rfl) : Ends p e below s Qb kc ks T (mkF m pc Ls (v :: st)) := by
  subst hq; exact Ends.go (fun t => XS.pop X.here hx rfl hd rfl hc) k'
theorem E.dupX1 {v w : Value} (X : Stand p l e R s m args below meth c T locs cells slots) (hx : p.tables.exec = Jvm.exec) (hd : decode c.code pc = .ok (.dup_x1, 1)) (hc : v.category = 1) (hc2 : w.category = 1) (k' : Ends p e below s Qb kc ks T (mkF m q Ls (v :: w :: v :: st))) (hq : pc + 1 = q := by rfl) : Ends p e below s Qb kc ks T (mkF m pc Ls (v :: w :: st)) := by
  subst hq; exact Ends.go (fun t => XS.dupX1 X.here hx rfl hd rfl hc hc2) k'
theorem E.icmpY {x y : Int32} {cd : ClassFile.Cond} {o : Int} (X : Stand p l e R s m args below meth c T locs cells slots) (hx : p.tables.exec = Jvm.exec) (hd : decode c.code pc = .ok (.if_icmp cd o, 3)) (hc : if_icmp.holds cd x y = true) (k' : Ends p e below s Qb kc ks T (mkF m q Ls st)) (ho : 0 ≤ (pc : Int) + o := by decide) (hq : ((pc : Int) + o).toNat = q := by decide) : Ends p e below s Qb kc ks T (mkF m pc Ls (.int y :: .int x :: st)) :=
  Ends.go (fun t => XS.icmpYes X.here hx rfl rfl hd rfl hc ho hq) k'
theorem E.icmpN {x y : Int32} {cd : ClassFile.Cond} {o : Int} (X : Stand p l e R s m args below meth c T locs cells slots) (hx : p.tables.exec = Jvm.exec) (hd : decode c.code pc = .ok (.if_icmp cd o, 3)) (hc : if_icmp.holds cd x y = false) (k' : Ends p e below s Qb kc ks T (mkF m q Ls st)) (hq : pc + 3 = q := by rfl) : Ends p e below s Qb kc ks T (mkF m pc Ls (.int y :: .int x :: st)) := by
  subst hq; exact Ends.go (fun t => XS.icmpNo X.here hx rfl hd rfl hc) k'
theorem E.ifY {x : Int32} {cd : ClassFile.Cond} {o : Int} (X : Stand p l e R s m args below meth c T locs cells slots) (hx : p.tables.exec = Jvm.exec) (hd : decode c.code pc = .ok (.ifCond cd o, 3)) (hc : ifCond.holds cd x = true) (k' : Ends p e below s Qb kc ks T (mkF m q Ls st)) (ho : 0 ≤ (pc : Int) + o := by decide) (hq : ((pc : Int) + o).toNat = q := by decide) : Ends p e below s Qb kc ks T (mkF m pc Ls (.int x :: st)) :=
  Ends.go (fun t => XS.ifYes X.here hx rfl rfl hd rfl hc ho hq) k'
theorem E.ifN {x : Int32} {cd : ClassFile.Cond} {o : Int} (X : Stand p l e R s m args below meth c T locs cells slots) (hx : p.tables.exec = Jvm.exec) (hd : decode c.code pc = .ok (.ifCond cd o, 3)) (hc : ifCond.holds cd x = false) (k' : Ends p e below s Qb kc ks T (mkF m q Ls st)) (hq : pc + 3 = q := by rfl) : Ends p e below s Qb kc ks T (mkF m pc Ls (.int x :: st)) := by
  subst hq; exact Ends.go (fun t => XS.ifNo X.here hx rfl hd rfl hc) k'
theorem E.goto {o : Int} (X : Stand p l e R s m args below meth c T locs cells slots) (hx : p.tables.exec = Jvm.exec) (hd : decode c.code pc = .ok (.goto o, 3)) (k' : Ends p e below s Qb kc ks T (mkF m q Ls st)) (ho : 0 ≤ (pc : Int) + o := by decide) (hq : ((pc : Int) + o).toNat = q := by decide) : Ends p e below s Qb kc ks T (mkF m pc Ls st) :=
  Ends.go (fun t => XS.goto X.here hx rfl rfl hd ho hq) k'
theorem E.nullY {o : Int} (X : Stand p l e R s m args below meth c T locs cells slots) (hx : p.tables.exec = Jvm.exec) (hd : decode c.code pc = .ok (.ifnull o, 3)) (k' : Ends p e below s Qb kc ks T (mkF m q Ls st)) (ho : 0 ≤ (pc : Int) + o := by decide) (hq : ((pc : Int) + o).toNat = q := by decide) : Ends p e below s Qb kc ks T (mkF m pc Ls (.null :: st)) :=
  Ends.go (fun t => XS.ifnullYes X.here hx rfl rfl hd rfl ho hq) k'
theorem E.nullN {o : Int} {b : Addr} (X : Stand p l e R s m args below meth c T locs cells slots) (hx : p.tables.exec = Jvm.exec) (hd : decode c.code pc = .ok (.ifnull o, 3)) (k' : Ends p e below s Qb kc ks T (mkF m q Ls st)) (hq : pc + 3 = q := by rfl) : Ends p e below s Qb kc ks T (mkF m pc Ls (.ref b :: st)) := by
  subst hq; exact Ends.go (fun t => XS.ifnullNo X.here hx rfl hd rfl) k'
theorem E.nonnullY {o : Int} {b : Addr} (X : Stand p l e R s m args below meth c T locs cells slots) (hx : p.tables.exec = Jvm.exec) (hd : decode c.code pc = .ok (.ifnonnull o, 3)) (k' : Ends p e below s Qb kc ks T (mkF m q Ls st)) (ho : 0 ≤ (pc : Int) + o := by decide) (hq : ((pc : Int) + o).toNat = q := by decide) : Ends p e below s Qb kc ks T (mkF m pc Ls (.ref b :: st)) :=
  Ends.go (fun t => XS.ifnonnullYes X.here hx rfl rfl hd rfl ho hq) k'
theorem E.nonnullN {o : Int} (X : Stand p l e R s m args below meth c T locs cells slots) (hx : p.tables.exec = Jvm.exec) (hd : decode c.code pc = .ok (.ifnonnull o, 3)) (k' : Ends p e below s Qb kc ks T (mkF m q Ls st)) (hq : pc + 3 = q := by rfl) : Ends p e below s Qb kc ks T (mkF m pc Ls (.null :: st)) := by
  subst hq; exact Ends.go (fun t => XS.ifnonnullNo X.here hx rfl hd rfl) k'
theorem E.ldc {v : Int32} {own : String} {index : Nat} (X : Stand p l e R s m args below meth c T locs cells slots) (hx : p.tables.exec = Jvm.exec) (hZ : Z.Warmed39 s.vm) (hown : s.vm.findClass own = some m.cls) (hc : (Jvm.Cond.constant own index v).before a0 Z = true) (hd : decode c.code pc = .ok (.ldc index, 2)) (k' : Ends p e below s Qb kc ks T (mkF m q Ls (.int v :: st))) (hq : pc + 2 = q := by rfl) : Ends p e below s Qb kc ks T (mkF m pc Ls st) := by
  subst hq; exact Ends.go (fun t => X.ldcI hx hown (mvT hZ hc) rfl hd) k'
theorem E.ldcW {v : Int32} {own : String} {index : Nat} (X : Stand p l e R s m args below meth c T locs cells slots) (hx : p.tables.exec = Jvm.exec) (hZ : Z.Warmed39 s.vm) (hown : s.vm.findClass own = some m.cls) (hc : (Jvm.Cond.constant own index v).before a0 Z = true) (hd : decode c.code pc = .ok (.ldc_w index, 3)) (k' : Ends p e below s Qb kc ks T (mkF m q Ls (.int v :: st))) (hq : pc + 3 = q := by rfl) : Ends p e below s Qb kc ks T (mkF m pc Ls st) := by
  subst hq; exact Ends.go (fun t => X.ldcWI hx hown (mvT hZ hc) rfl hd) k'
theorem E.ldc2 {v : Int64} {own : String} {index : Nat} (X : Stand p l e R s m args below meth c T locs cells slots) (hx : p.tables.exec = Jvm.exec) (hZ : Z.Warmed39 s.vm) (hown : s.vm.findClass own = some m.cls) (hc : (Jvm.Cond.constantLong own index v).before a0 Z = true) (hd : decode c.code pc = .ok (.ldc2_w index, 3)) (k' : Ends p e below s Qb kc ks T (mkF m q Ls (.long v :: st))) (hq : pc + 3 = q := by rfl) : Ends p e below s Qb kc ks T (mkF m pc Ls st) := by
  subst hq; exact Ends.go (fun t => X.ldc2J hx hown (mvT hZ hc) rfl hd) k'
end OwnSteps
theorem own_and3 (q : Int32) : q &&& 3 = 0 ∨ q &&& 3 = 1 ∨ q &&& 3 = 2 ∨ q &&& 3 = 3 := by
  have h := c_mask q 3 2 (by decide) (by decide)
  have h0 : (q &&& 3).toInt = 0 ∨ (q &&& 3).toInt = 1 ∨ (q &&& 3).toInt = 2 ∨ (q &&& 3).toInt = 3 := by omega
  rcases h0 with h0 | h0 | h0 | h0
  · exact Or.inl (Int32.toInt_inj.mp h0)
  · exact Or.inr (Or.inl (Int32.toInt_inj.mp h0))
  · exact Or.inr (Or.inr (Or.inl (Int32.toInt_inj.mp h0)))
  · exact Or.inr (Or.inr (Or.inr (Int32.toInt_inj.mp h0)))
theorem own_e {q ee : Int32} (h : ee = ((1 : Int32) <<< ((q &&& (3 : Int32)) &&& 31))) : ee = 1 ∨ ee = 2 ∨ ee = 4 ∨ ee = 8 := by
  rcases own_and3 q with e | e | e | e <;> rw [e] at h <;> subst h <;> decide
theorem own_lim {ee lim : Int32} (hE : ee = 1 ∨ ee = 2 ∨ ee = 4 ∨ ee = 8) (h : lim = ((2147483568 : Int32) / ee)) : (ee = 1 ∧ lim = 2147483568) ∨ (ee = 2 ∧ lim = 1073741784) ∨ (ee = 4 ∧ lim = 536870892) ∨ (ee = 8 ∧ lim = 268435446) := by
  rcases hE with rfl | rfl | rfl | rfl <;> subst h <;> decide
theorem own_nz {ee lim : Int32} (h : (ee = 1 ∧ lim = 2147483568) ∨ (ee = 2 ∧ lim = 1073741784) ∨ (ee = 4 ∧ lim = 536870892) ∨ (ee = 8 ∧ lim = 268435446)) : ¬ (lim + (1 : Int32)) = 0 := by
  rcases h with ⟨-, rfl⟩ | ⟨-, rfl⟩ | ⟨-, rfl⟩ | ⟨-, rfl⟩ <;> decide
theorem own_c {pp ee lim cc : Int32} (hE : ee = 1 ∨ ee = 2 ∨ ee = 4 ∨ ee = 8) (h : lim = ((2147483568 : Int32) / ee)) (hc : cc = ((pp &&& (2147483647 : Int32)) % (lim + (1 : Int32)))) : 0 ≤ cc.toInt ∧ cc.toInt * ee.toInt ≤ 2147483568 := by
  have h1 := c_mask pp 2147483647 31 (by decide) (by decide)
  have h2 : 0 ≤ (pp &&& 2147483647).toInt := by omega
  rcases own_lim hE h with ⟨rfl, rfl⟩ | ⟨rfl, rfl⟩ | ⟨rfl, rfl⟩ | ⟨rfl, rfl⟩
  · have h3 := (c_irem (pp &&& 2147483647) ((2147483568 : Int32) + 1) 2147483569 (by decide)).1 h2
    have : (1 : Int32).toInt = 1 := by decide
    subst hc; rw [h3, this]; omega
  · have h3 := (c_irem (pp &&& 2147483647) ((1073741784 : Int32) + 1) 1073741785 (by decide)).1 h2
    have : (2 : Int32).toInt = 2 := by decide
    subst hc; rw [h3, this]; omega
  · have h3 := (c_irem (pp &&& 2147483647) ((536870892 : Int32) + 1) 536870893 (by decide)).1 h2
    have : (4 : Int32).toInt = 4 := by decide
    subst hc; rw [h3, this]; omega
  · have h3 := (c_irem (pp &&& 2147483647) ((268435446 : Int32) + 1) 268435447 (by decide)).1 h2
    have : (8 : Int32).toInt = 8 := by decide
    subst hc; rw [h3, this]; omega
theorem own_lsb : ∀ i : Fin 32, ((-64 : Int32).toBitVec).getLsbD i.1 = !((63 : Int32).toBitVec).getLsbD i.1 := by decide
theorem own_split (x : Int32) : (x &&& (-64 : Int32)) + (x &&& 63) = x := by
  apply Int32.toBitVec_inj.mp
  rw [Int32.toBitVec_add, Int32.toBitVec_and, Int32.toBitVec_and]
  rw [BitVec.add_eq_or_of_and_eq_zero]
  · apply BitVec.eq_of_getLsbD_eq
    intro i hi
    have := own_lsb ⟨i, hi⟩
    simp only [BitVec.getLsbD_or, BitVec.getLsbD_and]
    simp only at this
    rw [this]
    cases x.toBitVec.getLsbD i <;> cases ((63 : Int32).toBitVec).getLsbD i <;> rfl
  · apply BitVec.eq_of_getLsbD_eq
    intro i hi
    have := own_lsb ⟨i, hi⟩
    simp only [BitVec.getLsbD_and, BitVec.getLsbD_zero]
    simp only at this
    rw [this]
    cases x.toBitVec.getLsbD i <;> cases ((63 : Int32).toBitVec).getLsbD i <;> rfl
theorem own_m64 (x : Int32) : (x &&& (-64 : Int32)).toInt = x.toInt - x.toInt % 64 := by
  have h1 := own_split x
  have h2 := c_mask x 63 6 (by decide) (by decide)
  have h3 := c_iadd (x &&& (-64 : Int32)) (x &&& 63)
  rw [h1] at h3
  have h5 := rng32 (x &&& (-64 : Int32))
  have h6 := rng32 x
  have k : ((2 ^ 6 : Nat) : Int) = 64 := by decide
  rw [k] at h2
  omega
theorem own_r {ee cc rr : Int32} (hE : ee = 1 ∨ ee = 2 ∨ ee = 4 ∨ ee = 8) (hc : 0 ≤ cc.toInt ∧ cc.toInt * ee.toInt ≤ 2147483568) (hr : rr = ((((((cc * ee) + (16 : Int32)) + (63 : Int32)) &&& (-64 : Int32)) - (16 : Int32)) / ee)) :
    ¬ rr < cc ∧ (((rr.toInt64) * (ee.toInt64)) + (16 : Int64)) - ((((rr.toInt64) * (ee.toInt64)) + (16 : Int64)) / (64 : Int64)) * (64 : Int64) = (0 : Int64) ∧ (((rr.toInt64) * (ee.toInt64)) - (64 : Int64)) < ((cc.toInt64) * (ee.toInt64)) := by
  obtain ⟨hc0, hc1⟩ := hc
  obtain ⟨d, hd, hd2⟩ : ∃ d : Int, ee.toInt = d ∧ (d = 1 ∨ d = 2 ∨ d = 4 ∨ d = 8) := by rcases hE with rfl | rfl | rfl | rfl <;> exact ⟨_, rfl, by decide⟩
  have hne : ee ≠ -1 := by rcases hE with rfl | rfl | rfl | rfl <;> decide
  have hn1 : 0 ≤ cc.toInt * ee.toInt := Int.mul_nonneg hc0 (by omega)
  have e1 := c_imul cc ee
  have q1 := rng32 (cc * ee)
  have e1' : (cc * ee).toInt = cc.toInt * ee.toInt := by omega
  have e2 := c_iadd (cc * ee) 16
  have q2 := rng32 (cc * ee + 16)
  have k16 : (16 : Int32).toInt = 16 := by decide
  have k63 : (63 : Int32).toInt = 63 := by decide
  have e2' : (cc * ee + 16).toInt = cc.toInt * ee.toInt + 16 := by omega
  have e3 := c_iadd (cc * ee + 16) 63
  have q3 := rng32 (cc * ee + 16 + 63)
  have e3' : (cc * ee + 16 + 63).toInt = cc.toInt * ee.toInt + 79 := by omega
  have e4 := own_m64 (cc * ee + 16 + 63)
  have e5 := c_isub ((cc * ee + 16 + 63) &&& (-64)) 16
  have q5 := rng32 (((cc * ee + 16 + 63) &&& (-64)) - 16)
  have e5' : (((cc * ee + 16 + 63) &&& (-64)) - 16).toInt = (cc.toInt * ee.toInt + 79) - (cc.toInt * ee.toInt + 79) % 64 - 16 := by omega
  have e6 := (c_idiv (((cc * ee + 16 + 63) &&& (-64)) - 16) ee d hd hne).1 (by omega)
  rw [← hr, e5'] at e6
  rw [hd] at e6 hc1 hn1
  generalize hK : cc.toInt * d = K at *
  have hrd : rr.toInt * d = (K + 79) - (K + 79) % 64 - 16 := by
    rw [e6]
    rcases hd2 with rfl | rfl | rfl | rfl <;> omega
  have g1 := c_i2l rr
  have g2 := c_i2l ee
  have g3 := c_i2l cc
  have m1 := c_lmul rr.toInt64 ee.toInt64
  have r1 := rng64 (rr.toInt64 * ee.toInt64)
  rw [g1, g2, hd, hrd] at m1
  have m1' : (rr.toInt64 * ee.toInt64).toInt = (K + 79) - (K + 79) % 64 - 16 := by omega
  have m2 := c_lmul cc.toInt64 ee.toInt64
  have r2 := rng64 (cc.toInt64 * ee.toInt64)
  rw [g3, g2, hd, hK] at m2
  have m2' : (cc.toInt64 * ee.toInt64).toInt = K := by omega
  have l16 : (16 : Int64).toInt = 16 := by decide
  have l64 : (64 : Int64).toInt = 64 := by decide
  have m3 := c_ladd (rr.toInt64 * ee.toInt64) 16
  have r3 := rng64 (rr.toInt64 * ee.toInt64 + 16)
  have m3' : (rr.toInt64 * ee.toInt64 + 16).toInt = (K + 79) - (K + 79) % 64 := by omega
  have m4 := (c_lrem (rr.toInt64 * ee.toInt64 + 16) 64 64 l64).1 (by omega)
  have m5 := c_lsub (rr.toInt64 * ee.toInt64) 64
  have r5 := rng64 (rr.toInt64 * ee.toInt64 - 64)
  refine ⟨?_, ?_, ?_⟩
  · rw [Int32.lt_iff_toInt_lt, e6]
    rcases hd2 with rfl | rfl | rfl | rfl <;> omega
  · apply Int64.toInt_inj.mp
    rw [m4, m3']
    show _ = (0 : Int)
    omega
  · rw [Int64.lt_iff_toInt_lt]
    omega
theorem pn_0 : plainName "com/example/needlework/needlework/match/ProbeSkip" = true := by first | (simp [plainName, overriddenIn]; done) | decide +kernel
theorem pn_1 : plainName "com/example/needlework/needlework/match/ProbeSkipWholeLinesPinLaw" = true := by first | (simp [plainName, overriddenIn]; done) | decide +kernel
theorem pd_0 : parseMethodDescriptor "(II)I" = some ⟨[.int, .int], some .int⟩ := by decide +kernel
theorem d1_0 : decode prog_16_method_5_code 0 = .ok (.iload_n 0, 1) := by decide +kernel
theorem d1_1 : decode prog_16_method_5_code 1 = .ok (.iload_n 1, 1) := by decide +kernel
theorem d1_2 : decode prog_16_method_5_code 2 = .ok (.imul, 1) := by decide +kernel
theorem d1_3 : decode prog_16_method_5_code 3 = .ok (.bipush 16, 2) := by decide +kernel
theorem d1_5 : decode prog_16_method_5_code 5 = .ok (.iadd, 1) := by decide +kernel
theorem d1_6 : decode prog_16_method_5_code 6 = .ok (.bipush 63, 2) := by decide +kernel
theorem d1_8 : decode prog_16_method_5_code 8 = .ok (.iadd, 1) := by decide +kernel
theorem d1_9 : decode prog_16_method_5_code 9 = .ok (.bipush (-64), 2) := by decide +kernel
theorem d1_11 : decode prog_16_method_5_code 11 = .ok (.iand, 1) := by decide +kernel
theorem d1_12 : decode prog_16_method_5_code 12 = .ok (.bipush 16, 2) := by decide +kernel
theorem d1_14 : decode prog_16_method_5_code 14 = .ok (.isub, 1) := by decide +kernel
theorem d1_15 : decode prog_16_method_5_code 15 = .ok (.iload_n 1, 1) := by decide +kernel
theorem d1_16 : decode prog_16_method_5_code 16 = .ok (.idiv, 1) := by decide +kernel
theorem d1_17 : decode prog_16_method_5_code 17 = .ok (.ireturn, 1) := by decide +kernel
theorem ef_1 (m : MethodId) (x0 : Int32) (x1 : Int32) : entryFrame m #[(.int x0), (.int x1)] 2 = mkF m 0 #[.val (.int x0), .val (.int x1)] [] := by first | (simp [entryFrame, mkF, argsToLocals, Value.category]; done) | rfl
set_option maxRecDepth 65536 in
set_option maxHeartbeats 40000000 in
theorem rm1 (l : Launch) (Z : State) (a0 : Array Value) (hw : ∀ d ∈ tables_1, d.before a0 Z = true) (c0 : Int32) (e0_ : Int32) (h0 : Heap) (hnz : ¬ e0_ = 0) :
    Con l (⟨"com/example/needlework/needlework/match/ProbeSkip", "wholeLines", "(II)I"⟩ : MethodName) prog_16_method_5_code 2 (some .int) [] ({ frames := 0, cells := 0, slots := 0, locals := 0 } : Room) #[(.int c0), (.int e0_)] Z h0 (fun v h L => v = some (.int ((((((c0 * e0_) + (16 : Int32)) + (63 : Int32)) &&& (-64 : Int32)) - (16 : Int32)) / e0_)) ∧ h = h0 ∧ L = []) := by
  refine Con.of (plainFor_of_name pn_0) ?_
  intro p e s m below meth c s₁ hx hZ hby hml hown hnm hret hlk X0 e0
  refine Ends.cast (ef_1 m c0 e0_) ?_
  show Ends p e below s _ _ _ s₁ (mkF m 0 #[.val (.int c0), .val (.int e0_)] [])
  refine E.iloadN (q := 1) X0 hx (hb hby d1_0) rfl ?_
  refine E.iloadN (q := 2) X0 hx (hb hby d1_1) rfl ?_
  refine E.imul (q := 3) X0 hx (hb hby d1_2) ?_
  refine E.bipush (q := 5) (v := (16 : Int32)) X0 hx (hb hby d1_3) rfl ?_
  refine E.iadd (q := 6) X0 hx (hb hby d1_5) ?_
  refine E.bipush (q := 8) (v := (63 : Int32)) X0 hx (hb hby d1_6) rfl ?_
  refine E.iadd (q := 9) X0 hx (hb hby d1_8) ?_
  refine E.bipush (q := 11) (v := (-64 : Int32)) X0 hx (hb hby d1_9) rfl ?_
  refine E.iand (q := 12) X0 hx (hb hby d1_11) ?_
  refine E.bipush (q := 14) (v := (16 : Int32)) X0 hx (hb hby d1_12) rfl ?_
  refine E.isub (q := 15) X0 hx (hb hby d1_14) ?_
  refine E.iloadN (q := 16) X0 hx (hb hby d1_15) rfl ?_
  refine E.idiv (q := 17) X0 hx (hb hby d1_16) hnz ?_
  exact Ends.retI X0 hx hlk hret (hb hby d1_17) (by decide) (by decide) ⟨rfl, e0, rfl⟩
theorem ef_0 (m : MethodId) (x0 : Int32) (x1 : Int32) : entryFrame m #[(.int x0), (.int x1)] maxLocals = mkF m 0 #[.val (.int x0), .val (.int x1), .unset, .unset, .unset, .unset, .unset, .unset, .unset, .unset, .unset, .unset, .unset] [] := by first | (simp [entryFrame, mkF, argsToLocals, Value.category, maxLocals]; done) | rfl
set_option maxRecDepth 65536 in
set_option maxHeartbeats 40000000 in
theorem rm0 (l : Launch) (Z : State) (a0 : Array Value) (hw : ∀ d ∈ tables_1, d.before a0 Z = true) (pp : Int32) (qq : Int32) (h0 : Heap) :
    Con l x code maxLocals ret tables_1 room_1 #[(.int pp), (.int qq)] Z h0 (fun v h L => v = some (.int 1) ∧ Fr h0.size L) := by
  refine Con.of (plainFor_of_name pn_1) ?_
  intro p e s m below meth c s₁ hx hZ hby hml hown hnm hret hlk X0 e0
  refine Ends.cast (ef_0 m pp qq) ?_
  show Ends p e below s _ _ _ s₁ (mkF m 0 #[.val (.int pp), .val (.int qq), .unset, .unset, .unset, .unset, .unset, .unset, .unset, .unset, .unset, .unset, .unset] [])
  refine E.iconst (q := 1) (v := (1 : Int32)) X0 hx (hb hby at_0) rfl ?_
  refine E.iloadN (q := 2) X0 hx (hb hby at_1) rfl ?_
  refine E.iconst (q := 3) (v := (3 : Int32)) X0 hx (hb hby at_2) rfl ?_
  refine E.iand (q := 4) X0 hx (hb hby at_3) ?_
  refine E.ishl (q := 5) X0 hx (hb hby at_4) ?_
  obtain ⟨ee, hee⟩ : ∃ z, z = ((1 : Int32) <<< ((qq &&& (3 : Int32)) &&& 31)) := ⟨_, rfl⟩
  rw [← hee]
  have hE := own_e hee
  have hnz : ¬ ee = 0 := by rcases hE with h | h | h | h <;> (rw [h]; decide)
  refine E.istoreN (q := 6) (l' := #[.val (.int pp), .val (.int qq), .val (.int ee), .unset, .unset, .unset, .unset, .unset, .unset, .unset, .unset, .unset, .unset]) X0 hx (hb hby at_5) rfl ?_
  refine E.ldc (q := 8) X0 hx hZ hown (hw _ (List.mem_of_getElem? (i := 0) rfl)) (hb hby at_6) ?_
  refine E.iloadN (q := 9) X0 hx (hb hby at_8) rfl ?_
  refine E.idiv (q := 10) X0 hx (hb hby at_9) hnz ?_
  obtain ⟨lim, hlim⟩ : ∃ z, z = ((2147483568 : Int32) / ee) := ⟨_, rfl⟩
  rw [← hlim]
  have hL := own_lim hE hlim
  have hnl : ¬ (lim + (1 : Int32)) = 0 := own_nz hL
  refine E.istoreN (q := 11) (l' := #[.val (.int pp), .val (.int qq), .val (.int ee), .val (.int lim), .unset, .unset, .unset, .unset, .unset, .unset, .unset, .unset, .unset]) X0 hx (hb hby at_10) rfl ?_
  refine E.iloadN (q := 12) X0 hx (hb hby at_11) rfl ?_
  refine E.ldc (q := 14) X0 hx hZ hown (hw _ (List.mem_of_getElem? (i := 1) rfl)) (hb hby at_12) ?_
  refine E.iand (q := 15) X0 hx (hb hby at_14) ?_
  refine E.iloadN (q := 16) X0 hx (hb hby at_15) rfl ?_
  refine E.iconst (q := 17) (v := (1 : Int32)) X0 hx (hb hby at_16) rfl ?_
  refine E.iadd (q := 18) X0 hx (hb hby at_17) ?_
  refine E.irem (q := 19) X0 hx (hb hby at_18) hnl ?_
  obtain ⟨cc, hcc⟩ : ∃ z, z = ((pp &&& (2147483647 : Int32)) % (lim + (1 : Int32))) := ⟨_, rfl⟩
  rw [← hcc]
  have hcc' := own_c hE hlim hcc
  refine E.istore (q := 21) (l' := #[.val (.int pp), .val (.int qq), .val (.int ee), .val (.int lim), .val (.int cc), .unset, .unset, .unset, .unset, .unset, .unset, .unset, .unset]) X0 hx (hb hby at_19) rfl ?_
  refine E.iload (q := 23) X0 hx (hb hby at_21) rfl ?_
  refine E.iloadN (q := 24) X0 hx (hb hby at_23) rfl ?_
  refine Ends.callS X0 hx hZ hown (hw _ (List.mem_of_getElem? (i := 2) rfl)) (hw _ (List.mem_of_getElem? (i := 3) rfl)) (hw _ (List.mem_of_getElem? (i := 4) rfl)) (hw _ (List.mem_of_getElem? (i := 5) rfl)) (by decide) (argsL := [(.int cc), (.int ee)]) (rest := []) e0 (rm1 l Z a0 hw cc ee h0 hnz) (W := 0) (by decide) (by decide) (by rw [hml]; rfl) (lenOf pd_0 rfl) (by decide) (hb hby at_24) (by decide) (by decide) rfl ?_
  rintro T1 v1 L1 X1 ⟨rfl, e1, rfl⟩
  show Ends p e below s _ _ _ T1 (mkF m 27 #[.val (.int pp), .val (.int qq), .val (.int ee), .val (.int lim), .val (.int cc), .unset, .unset, .unset, .unset, .unset, .unset, .unset, .unset] [(.int ((((((cc * ee) + (16 : Int32)) + (63 : Int32)) &&& (-64 : Int32)) - (16 : Int32)) / ee))])
  rw [List.append_nil] at X1
  obtain ⟨rr, hrr⟩ : ∃ z, z = ((((((cc * ee) + (16 : Int32)) + (63 : Int32)) &&& (-64 : Int32)) - (16 : Int32)) / ee) := ⟨_, rfl⟩
  rw [← hrr]
  obtain ⟨hr1, hr2, hr3⟩ := own_r hE hcc' hrr
  refine E.istore (q := 29) (l' := #[.val (.int pp), .val (.int qq), .val (.int ee), .val (.int lim), .val (.int cc), .val (.int rr), .unset, .unset, .unset, .unset, .unset, .unset, .unset]) X1 hx (hb hby at_27) rfl ?_
  refine E.iload (q := 31) X1 hx (hb hby at_29) rfl ?_
  refine E.i2l (q := 32) X1 hx (hb hby at_31) ?_
  refine E.iloadN (q := 33) X1 hx (hb hby at_32) rfl ?_
  refine E.i2l (q := 34) X1 hx (hb hby at_33) ?_
  refine E.lmul (q := 35) X1 hx (hb hby at_34) ?_
  refine E.lstore (q := 37) (l' := #[.val (.int pp), .val (.int qq), .val (.int ee), .val (.int lim), .val (.int cc), .val (.int rr), .val (.long ((rr.toInt64) * (ee.toInt64))), .second, .unset, .unset, .unset, .unset, .unset]) X1 hx (hb hby at_35) rfl ?_
  refine E.iload (q := 39) X1 hx (hb hby at_37) rfl ?_
  refine E.i2l (q := 40) X1 hx (hb hby at_39) ?_
  refine E.iloadN (q := 41) X1 hx (hb hby at_40) rfl ?_
  refine E.i2l (q := 42) X1 hx (hb hby at_41) ?_
  refine E.lmul (q := 43) X1 hx (hb hby at_42) ?_
  refine E.lstore (q := 45) (l' := #[.val (.int pp), .val (.int qq), .val (.int ee), .val (.int lim), .val (.int cc), .val (.int rr), .val (.long ((rr.toInt64) * (ee.toInt64))), .second, .val (.long ((cc.toInt64) * (ee.toInt64))), .second, .unset, .unset, .unset]) X1 hx (hb hby at_43) rfl ?_
  refine E.iload (q := 47) X1 hx (hb hby at_45) rfl ?_
  refine E.iload (q := 49) X1 hx (hb hby at_47) rfl ?_
  refine E.icmpN (q := 52) X1 hx (hb hby at_49) (XT.ii_lt_f hr1) ?_
  refine E.iconst (q := 53) (v := (1 : Int32)) X1 hx (hb hby at_52) rfl ?_
  refine E.goto (q := 57) X1 hx (hb hby at_53) ?_
  refine E.istore (q := 59) (l' := #[.val (.int pp), .val (.int qq), .val (.int ee), .val (.int lim), .val (.int cc), .val (.int rr), .val (.long ((rr.toInt64) * (ee.toInt64))), .second, .val (.long ((cc.toInt64) * (ee.toInt64))), .second, .val (.int (1 : Int32)), .unset, .unset]) X1 hx (hb hby at_57) rfl ?_
  refine E.lload (q := 61) X1 hx (hb hby at_59) rfl ?_
  refine E.ldc2 (q := 64) X1 hx hZ hown (hw _ (List.mem_of_getElem? (i := 6) rfl)) (hb hby at_61) ?_
  refine E.ladd (q := 65) X1 hx (hb hby at_64) ?_
  refine E.ldc2 (q := 68) X1 hx hZ hown (hw _ (List.mem_of_getElem? (i := 7) rfl)) (hb hby at_65) ?_
  refine E.lrem (q := 69) X1 hx (hb hby at_68) (by decide) ?_
  refine E.lconst (q := 70) (v := (0 : Int64)) X1 hx (hb hby at_69) rfl ?_
  refine E.lcmp (q := 71) X1 hx (hb hby at_70) ?_
  refine E.ifN (q := 74) X1 hx (hb hby at_71) (XT.i0_ne_f ((lw_eq _ _).mpr hr2)) ?_
  refine E.iconst (q := 75) (v := (1 : Int32)) X1 hx (hb hby at_74) rfl ?_
  refine E.goto (q := 79) X1 hx (hb hby at_75) ?_
  refine E.istore (q := 81) (l' := #[.val (.int pp), .val (.int qq), .val (.int ee), .val (.int lim), .val (.int cc), .val (.int rr), .val (.long ((rr.toInt64) * (ee.toInt64))), .second, .val (.long ((cc.toInt64) * (ee.toInt64))), .second, .val (.int (1 : Int32)), .val (.int (1 : Int32)), .unset]) X1 hx (hb hby at_79) rfl ?_
  refine E.lload (q := 83) X1 hx (hb hby at_81) rfl ?_
  refine E.ldc2 (q := 86) X1 hx hZ hown (hw _ (List.mem_of_getElem? (i := 7) rfl)) (hb hby at_83) ?_
  refine E.lsub (q := 87) X1 hx (hb hby at_86) ?_
  refine E.lload (q := 89) X1 hx (hb hby at_87) rfl ?_
  refine E.lcmp (q := 90) X1 hx (hb hby at_89) ?_
  refine E.ifN (q := 93) X1 hx (hb hby at_90) (XT.i0_ge_f ((lw_lt _ _).mpr hr3)) ?_
  refine E.iconst (q := 94) (v := (1 : Int32)) X1 hx (hb hby at_93) rfl ?_
  refine E.goto (q := 98) X1 hx (hb hby at_94) ?_
  refine E.istore (q := 100) (l' := #[.val (.int pp), .val (.int qq), .val (.int ee), .val (.int lim), .val (.int cc), .val (.int rr), .val (.long ((rr.toInt64) * (ee.toInt64))), .second, .val (.long ((cc.toInt64) * (ee.toInt64))), .second, .val (.int (1 : Int32)), .val (.int (1 : Int32)), .val (.int (1 : Int32))]) X1 hx (hb hby at_98) rfl ?_
  refine E.iload (q := 102) X1 hx (hb hby at_100) rfl ?_
  refine E.ifN (q := 105) X1 hx (hb hby at_102) (XT.i0_eq_f (by decide)) ?_
  refine E.iload (q := 107) X1 hx (hb hby at_105) rfl ?_
  refine E.ifN (q := 110) X1 hx (hb hby at_107) (XT.i0_eq_f (by decide)) ?_
  refine E.iload (q := 112) X1 hx (hb hby at_110) rfl ?_
  refine E.ifN (q := 115) X1 hx (hb hby at_112) (XT.i0_eq_f (by decide)) ?_
  refine E.iconst (q := 116) (v := (1 : Int32)) X1 hx (hb hby at_115) rfl ?_
  refine E.goto (q := 120) X1 hx (hb hby at_116) ?_
  exact Ends.retS X1 hx hlk hret (by simp) rfl (hb hby at_120) (by decide) (by decide) ⟨rfl, Fr.nil _⟩
set_option maxRecDepth 65536 in
set_option maxHeartbeats 40000000 in
theorem comes_1 {Post : Tables → Env → Array Value → State → Outcome → State → Prop} (hpost : ∀ tb e args s v u, (limb_1_1.after args s (.returned v) u = true ∧ limb_1_2.after args s (.returned v) u = true) → FrameEnd s (.returned v) u (Jvm.fieldLocs frame_1_writes args s ++ Jvm.arrayLocs frame_1_arrays args s ++ Jvm.staticLocs frame_1_statics s) 0 0 → Post tb e args s (.returned v) u) :
    ArmFor flags0 classFile x code maxLocals ret World_1 tables_1 room_1 Calls_1 rest_1 Pre_1 Post := by
  intro l hfl _ _ p e ha hc hk s m args below hf hA hF happ hP
  obtain ⟨hcalls, hrest, hpre⟩ := hP
  obtain ⟨-, -, -, hnamed, -, -, -, hat⟩ := (Spec.applies_iff hf).mp happ
  obtain ⟨hg, hn⟩ := and_e (Cond.before_iff.mp (show (Jvm.Cond.and given_1 narrow_1).before args s = true from hpre))
  obtain ⟨g0, hg⟩ := and_e hg
  obtain ⟨ga0, hg⟩ := and_e hg
  obtain ⟨w0, w1, rfl⟩ : ∃ w0 w1 : Value, args = #[w0, w1] := by
    have hs : args.size = 2 := by simpa [Cond.value, given_1] using g0
    obtain ⟨L⟩ := args
    match L, hs with
    | [w0, w1], _ => exact ⟨w0, w1, rfl⟩
  have hw := fun d (hd : d ∈ tables_1) => atoms_spec (ws := Jvm.Cond.code x code maxLocals ret :: tables_1) hat d (List.mem_cons_of_mem _ hd)
  obtain ⟨i0, ei0⟩ := is_v ga0
  obtain rfl : w0 = (.int i0) := Option.some.inj ei0
  obtain ⟨i1, ei1⟩ := is_v hg
  obtain rfl : w1 = (.int i1) := Option.some.inj ei1
  obtain ⟨n, o, h1, h2, h3, _, L, rfl, ⟨rfl, N⟩, hq⟩ := rm0 l s _ hw i0 i1 s.heap p e ha hc hk s m _ below hf ((Spec.applies_iff_loose hf).mp happ).1 ⟨rfl, State.Warmed39.refl s, rfl⟩ trivial
  exact ⟨n, _, h1, h2, h3, hpost _ _ _ _ _ _ ⟨Cond.after_iff.mpr rfl, Cond.after_iff.mpr (eq_i res_at (Term.int_eval (1)) rfl)⟩ ⟨hq.1, hq.2.1, (hq.2.2.sift fun y hy => Or.inr (N y hy)).mono (by decide) (by decide)⟩⟩
theorem main_1_1 : Claimed_1_1 := comes_1 fun _ _ _ _ _ _ h hF => ⟨h.1, hF⟩
theorem main_1_2 : Claimed_1_2 := comes_1 fun _ _ _ _ _ _ h hF => ⟨h.2, hF⟩
end Jvm.Pilot.@@N@@
namespace Jvm.Pilot.@@N@@
open Jvm Jvm.ClassFile Sem Op Lib Jvm.Free Jvm.Stand Jvm.Pilot.@@N@@.Jvm.D
/-! MADE BY PROGRAM (witnessworld.py) out of the Statement's table words and the real class files: 9 classes; the members and pool entries that the words name. The judged class is class 1, her method 1. -/
namespace start1
open Jvm.ClassFile
def u (s : String) : CpInfo := .utf8 (stringToUtf16 s)
/-- a pool by its gaps: so many unusable entries, then the entry; so many at the end -/
def gap : Nat → List CpInfo → List CpInfo
  | 0, r => r
  | n + 1, r => .unusable :: gap n r
def poolList (es : List (Nat × CpInfo)) (last : Nat) : List CpInfo := es.foldr (fun e r => gap e.1 (e.2 :: r)) (gap last [])
def pool (es : List (Nat × CpInfo)) (last : Nat) : Array CpInfo := ⟨poolList es last⟩
def fileOf (pool : Array CpInfo) (this : Nat) (attrs : Array Attribute := #[]) (ms : Array MethodInfo := #[]) (fl : Nat := 33) (sup : Nat := 0) (ifs : Array Nat := #[]) (fds : Array FieldInfo := #[]) : ClassFile where
  minorVersion := 0
  majorVersion := 65
  constantPool := pool
  accessFlags := fl
  thisClass := this
  superClass := sup
  interfaces := ifs
  fields := fds
  methods := ms
  attributes := attrs
def plain (name : String) (sup : Option ClassId) : Class where
  name := name
  kind := .ordinary
  loader := none
  accessFlags := 33
  super := sup
  interfaces := #[]
  cf := none
  fields := #[]
  methods := #[]
  instanceTypes := #[]
  staticTypes := #[]
  resolved := #[]
  callSites := []
  init := .initialized
  statics := none
  mirror := none

def pool0 : Array CpInfo := pool [(5, u "<init>"), (0, u "()V"), (1, .class_ 10), (1, u "java/lang/Object")] 113

def k0m0 : Method := { name := "<init>", desc := "()V", sig := { parameters := [], returnType := none }, accessFlags := 1, code := none }
/-- java/lang/Object -/
def k0 : Class := { plain "java/lang/Object" none with
  accessFlags := 33
  interfaces := #[]
  cf := some (fileOf pool0 8 #[] #[{ accessFlags := 1, nameIndex := 5, descriptorIndex := 6, attributes := #[] }] 33 0 #[] #[])
  fields := #[]
  methods := #[k0m0]
  instanceTypes := #[]
  staticTypes := #[]
  resolved := Array.replicate 124 none
  statics := none }

def pool1 : Array CpInfo := pool [(2, .class_ 4), (1, u "java/lang/Object"), (0, u "<init>"), (0, u "()V"), (0, .integer 2147483568), (0, .integer 2147483647), (0, .methodref 10 11), (0, .class_ 12), (0, .nameAndType 13 14), (0, u "com/example/needlework/needlework/match/ProbeSkip"), (0, u "wholeLines"), (0, u "(II)I"), (0, .long 16), (1, .long 64), (1, .class_ 20), (0, u "com/example/needlework/needlework/match/ProbeSkipWholeLinesPinLaw"), (2, u "law"), (0, u "(II)Z")] 3

def k1m0 : Method := { name := "<init>", desc := "()V", sig := { parameters := [], returnType := none }, accessFlags := 1, code := none }
def k1c1 : Code := { maxStack := 4, maxLocals := 13, code := code, exceptionTable := #[], attributes := #[] }
def k1m1 : Method := { name := "law", desc := "(II)Z", sig := { parameters := [.int, .int], returnType := some .boolean }, accessFlags := 9, code := some k1c1 }
/-- com/example/needlework/needlework/match/ProbeSkipWholeLinesPinLaw -/
def k1 : Class := { plain "com/example/needlework/needlework/match/ProbeSkipWholeLinesPinLaw" (some 0) with
  accessFlags := 49
  interfaces := #[]
  cf := some (fileOf pool1 19 #[] #[{ accessFlags := 1, nameIndex := 5, descriptorIndex := 6, attributes := #[] }, { accessFlags := 9, nameIndex := 23, descriptorIndex := 24, attributes := #[] }] 49 2 #[] #[])
  fields := #[]
  methods := #[k1m0, k1m1]
  instanceTypes := #[]
  staticTypes := #[]
  resolved := Array.replicate 28 none
  statics := none }

def pool2 : Array CpInfo := pool [(2, .class_ 4), (1, u "java/lang/Object"), (0, u "<init>"), (0, u "()V"), (1, .class_ 10), (1, u "com/example/needlework/needlework/match/ProbeSkip"), (0, u "base"), (0, u "I"), (2, u "size"), (2, u "last"), (8, u "FEWEST_STARTS"), (2, u "BLOCK"), (5, u "wholeLines"), (0, u "(II)I")] 2

def k2m0 : Method := { name := "<init>", desc := "()V", sig := { parameters := [], returnType := none }, accessFlags := 0, code := none }
def k2c1 : Code := { maxStack := 2, maxLocals := 2, code := prog_16_method_5_code, exceptionTable := #[], attributes := #[] }
def k2m1 : Method := { name := "wholeLines", desc := "(II)I", sig := { parameters := [.int, .int], returnType := some .int }, accessFlags := 8, code := some k2c1 }
/-- com/example/needlework/needlework/match/ProbeSkip -/
def k2 : Class := { plain "com/example/needlework/needlework/match/ProbeSkip" (some 0) with
  accessFlags := 1056
  interfaces := #[]
  cf := some (fileOf pool2 8 #[] #[{ accessFlags := 0, nameIndex := 5, descriptorIndex := 6, attributes := #[] }, { accessFlags := 8, nameIndex := 36, descriptorIndex := 37, attributes := #[] }] 1056 2 #[] #[{ accessFlags := 24, nameIndex := 27, descriptorIndex := 12, attributes := #[] }, { accessFlags := 24, nameIndex := 30, descriptorIndex := 12, attributes := #[] }, { accessFlags := 0, nameIndex := 18, descriptorIndex := 12, attributes := #[] }, { accessFlags := 0, nameIndex := 11, descriptorIndex := 12, attributes := #[] }, { accessFlags := 0, nameIndex := 15, descriptorIndex := 12, attributes := #[] }])
  fields := #[{ name := "FEWEST_STARTS", type := .int, accessFlags := 24, slot := 0, constantValue := 0 }, { name := "BLOCK", type := .int, accessFlags := 24, slot := 1, constantValue := 0 }, { name := "last", type := .int, accessFlags := 0, slot := 0, constantValue := 0 }, { name := "base", type := .int, accessFlags := 0, slot := 1, constantValue := 0 }, { name := "size", type := .int, accessFlags := 0, slot := 2, constantValue := 0 }]
  methods := #[k2m0, k2m1]
  instanceTypes := #[.int, .int, .int]
  staticTypes := #[.int, .int]
  resolved := Array.replicate 40 none
  statics := none }

def pool3 : Array CpInfo := pool [(1, u "java/lang/Cloneable"), (0, .class_ 1), (0, u "java/lang/Object"), (0, .class_ 3)] 3

/-- java/lang/Cloneable -/
def k3 : Class := { plain "java/lang/Cloneable" (some 0) with
  accessFlags := 1537
  interfaces := #[]
  cf := some (fileOf pool3 2 #[] #[] 1537 4 #[] #[])
  fields := #[]
  methods := #[]
  instanceTypes := #[]
  staticTypes := #[]
  resolved := Array.replicate 8 none
  statics := none }

def pool4 : Array CpInfo := pool [(1, u "java/io/Serializable"), (0, .class_ 1), (0, u "java/lang/Object"), (0, .class_ 3)] 3

/-- java/io/Serializable -/
def k4 : Class := { plain "java/io/Serializable" (some 0) with
  accessFlags := 1537
  interfaces := #[]
  cf := some (fileOf pool4 2 #[] #[] 1537 4 #[] #[])
  fields := #[]
  methods := #[]
  instanceTypes := #[]
  staticTypes := #[]
  resolved := Array.replicate 8 none
  statics := none }

/-- the primitive byte -/
def k5 : Class := { plain "byte" none with kind := .primitive 'B', accessFlags := 0x411 }
/-- [B -/
def k6 : Class := { plain "[B" (some 0) with kind := .array 5 .byte, interfaces := #[3, 4], accessFlags := 1041 }

/-- the primitive int -/
def k7 : Class := { plain "int" none with kind := .primitive 'I', accessFlags := 0x411 }
/-- [I -/
def k8 : Class := { plain "[I" (some 0) with kind := .array 7 .int, interfaces := #[3, 4], accessFlags := 1041 }

def heap : Heap := #[]
def classes : Array Class := #[k0, k1, k2, k3, k4, k5, k6, k7, k8]
def interned : List (Array UInt16 × Addr) := []
def slotsUsed : Nat := 0
def theMethod : MethodId := ⟨1, 1⟩
def args0 : Array Value := #[.int 5, .int 2]
def aboutOver (below : List Frame) : State where
  vm := { classes := classes, interned := interned.toArray }
  heap := heap
  slotsUsed := slotsUsed
  threads := #[{ frames := .invoking theMethod args0 :: below }]
def below0 : List Frame := [.native { method := ⟨0, 0⟩, args := #[] }]
def about1 : State := aboutOver below0
def p0 : Program := .bare "" "" ""
def e0 : Env := launch0.env 0 0 0
theorem w_frames : about1.frames = Frame.invoking theMethod args0 :: below0 := rfl
set_option maxRecDepth 65536 in
theorem w_args : argsFit about1.vm theMethod args0 = true := by decide +kernel
set_option maxRecDepth 65536 in
theorem w_heap : heapFits about1 = true := by decide +kernel
set_option maxRecDepth 65536 in
theorem w_runnable : about1.curStatus? = some .runnable := by decide +kernel
set_option maxRecDepth 65536 in
theorem w_alone : about1.alone = true := by decide +kernel
set_option maxRecDepth 65536 in
theorem w_named : about1.methodNamed? x = some theMethod := by decide +kernel
set_option maxRecDepth 65536 in
theorem w_hears : about1.hears theMethod below0 = true := by decide +kernel
set_option maxRecDepth 65536 in
theorem w_ripe : about1.ripe theMethod args0 below0 = true := by decide +kernel
theorem w_running : about1.status = .running := rfl
set_option maxRecDepth 65536 in
theorem w_room : about1.hasRoom e0.platform room_1 = true :=
  launch0.hasRoom_least _ room_1 (by decide +kernel) (by decide +kernel) (by decide +kernel) (by decide +kernel) (by decide +kernel) (by decide +kernel)
theorem allAtoms_all (ts : List Jvm.Cond) (a : Array Jvm.Value) (st : Jvm.State) : (allAtoms ts).before a st = ts.all (fun c => c.before a st) := by
  induction ts with
  | nil => rfl
  | cons c t ih =>
    show (Jvm.Cond.and c (allAtoms t)).before a st = _
    rw [Jvm.Cond.before_and, ih, List.all_cons]
def words1 : List Jvm.Cond := Jvm.Cond.code x code maxLocals ret :: tables_1
/-- a 'code' word, met by the world's own term for the bytes: nothing is compared byte by byte -/
theorem code_word {y : MethodName} {bytes : ByteArray} {mx : Nat} {rt : Option FieldType} {a : Array Value} {s : State} {m : MethodId} {meth : Method} {c : Code} (h1 : s.methodNamed? y = some m) (h2 : s.vm.method? m = some meth) (h3 : meth.code = some c) (h4 : c.code = bytes)
    (h5 : (c.maxLocals == mx && c.exceptionTable.isEmpty && decide (c.maxStack ≤ mostOperands) && decide (meth.sig.returnType = rt) && !meth.locks && decide (parseMethodDescriptor y.desc = some meth.sig)) = true) : (Jvm.Cond.code y bytes mx rt).before a s = true := by
  simp only [Bool.and_eq_true, beq_iff_eq, Bool.not_eq_true', decide_eq_true_eq] at h5
  obtain ⟨⟨⟨⟨⟨g1, g2⟩, g3⟩, g4⟩, g5⟩, g6⟩ := h5
  simp [Cond.before, Cond.holds, Cond.value, h1, h2, h3, h4, g1, g2, g3, g4, g5, g6]
def isCode : Jvm.Cond → Bool
  | .code _ _ _ _ => true
  | _ => false
theorem all_split {L : List Jvm.Cond} {P : Jvm.Cond → Bool} (h1 : L.all (fun c => isCode c || P c) = true) (h2 : ∀ c ∈ L.filter isCode, P c = true) : L.all P = true := by
  refine List.all_eq_true.mpr fun c hc => ?_
  have h := List.all_eq_true.mp h1 c hc
  rcases Bool.eq_false_or_eq_true (isCode c) with hi | hi
  · exact h2 c (List.mem_filter.mpr ⟨hc, hi⟩)
  · simpa [hi] using h
set_option maxRecDepth 65536 in
theorem w_c0 : (Jvm.Cond.code x code maxLocals ret).before args0 about1 = true := code_word (m := ⟨1, 1⟩) (meth := k1m1) (c := k1c1) (by decide +kernel) rfl rfl rfl (by decide +kernel)
set_option maxRecDepth 65536 in
theorem w_c1 : (Jvm.Cond.code ({ cls := "com/example/needlework/needlework/match/ProbeSkip", name := "wholeLines", desc := "(II)I" } : Jvm.MethodName) prog_16_method_5_code (2 : Nat) (Option.some Jvm.ClassFile.FieldType.int)).before args0 about1 = true := code_word (m := ⟨2, 1⟩) (meth := k2m1) (c := k2c1) (by decide +kernel) rfl rfl rfl (by decide +kernel)
def codes1 : List Jvm.Cond := [Jvm.Cond.code x code maxLocals ret, Jvm.Cond.code ({ cls := "com/example/needlework/needlework/match/ProbeSkip", name := "wholeLines", desc := "(II)I" } : Jvm.MethodName) prog_16_method_5_code (2 : Nat) (Option.some Jvm.ClassFile.FieldType.int)]
set_option maxRecDepth 65536 in
theorem codes_eq : words1.filter isCode = codes1 := rfl
theorem w_codes : ∀ c ∈ words1.filter isCode, c.before args0 about1 = true := by
  rw [codes_eq]
  intro c hc
  simp only [codes1, List.mem_cons, List.not_mem_nil, or_false] at hc
  rcases hc with rfl | rfl
  · exact w_c0
  · exact w_c1
set_option maxRecDepth 65536 in
theorem w_t1 : words1.all (fun c => isCode c || c.before args0 about1) = true := by decide +kernel
theorem w_tables : (allAtoms (Jvm.Cond.code x code maxLocals ret :: tables_1)).before args0 about1 = true := by
  rw [allAtoms_all]
  show words1.all (fun c => c.before args0 about1) = true
  refine all_split ?_ w_codes
  rw [w_t1]
set_option maxRecDepth 65536 in
theorem w_case : (Jvm.Cond.and given_1 narrow_1).before args0 about1 = true := by decide +kernel
theorem w_applies : (headSpec (Jvm.Cond.code x code maxLocals ret :: tables_1) room_1).applies x e0.platform about1 = true :=
  (Spec.applies_iff w_frames).mpr ⟨w_running, w_runnable, w_alone, w_named, w_hears, w_ripe, w_room, w_tables⟩
theorem atStart : AtStart classFile x code maxLocals ret World_1 tables_1 room_1 Calls_1 rest_1 Pre_1 launch0 p0 e0 about1 theMethod args0 below0 :=
  ⟨lists_1, trivial, launch0.admits_env _ _ _, launch0.least_env, fairChoices_fair.cas, fairChoices_fair.clock, w_frames, w_args, w_heap, w_applies, trivial, trivial, w_case⟩
end start1
theorem witness_1 : WitnessClaimed_1 := ⟨start1.p0, start1.e0, start1.about1, start1.theMethod, start1.args0, start1.below0, start1.atStart⟩
end Jvm.Pilot.@@N@@
