import JvmDerived
import JvmDerived.Pilot.@@N@@Statement
import JvmDerived.Pilot.@@N@@Code
set_option linter.unusedVariables false
set_option linter.unusedSimpArgs false

namespace Jvm.Pilot.@@N@@
open Jvm Jvm.ClassFile Sem Op Lib Jvm.Free Jvm.Stand Jvm.LawKit Jvm.RoadKit Bundle Jvm.Pilot.@@N@@.Jvm.D
/-! own text: the run of a body in continuation form -/
section OwnKit
variable {p : Program} {l : Launch} {e : Env} {R : Room} {s : State} {m : MethodId} {args : Array Value} {below : List Frame} {meth : Method} {c : Code} {T : State} {locs : List Loc} {cells slots : Nat} {Z : State} {a0 : Array Value} {h : Heap} {Qb : Option Value → Heap → List Loc → Prop} {kc ks : Nat}
/-- from the state T with the frame g on top the run comes to the end of the body, and there Qb holds -/
def Ends (p : Program) (e : Env) (below : List Frame) (s : State) (Qb : Option Value → Heap → List Loc → Prop) (kc ks : Nat) (T : State) (g : JFrame) : Prop :=
  ∃ s₂ o, Steps p.tables e below (T.setTop g) s₂ ∧ s₂.status = .running ∧ Ended s₂ below o ∧ ∃ v L, o = .returned v ∧ Qb v s₂.heap L ∧ FrameEnd s o s₂ L kc ks
theorem Ends.go {T T' : State} {g g' : JFrame} (h : ∀ t, Steps p.tables e below (T'.setTop g') t → Steps p.tables e below (T.setTop g) t) (k : Ends p e below s Qb kc ks T' g') : Ends p e below s Qb kc ks T g := by
  obtain ⟨s2, o, st, r⟩ := k
  exact ⟨s2, o, h _ st, r⟩
theorem Ends.cast {T : State} {g g' : JFrame} (h : g = g') (k : Ends p e below s Qb kc ks T g') : Ends p e below s Qb kc ks T g := h ▸ k
abbrev Con (l : Launch) (y : MethodName) (code : ByteArray) (ml : Nat) (rt : Option FieldType) (ws : List Jvm.Cond) (rm : Room) (as' : Array Value) (Z : State) (h0 : Heap) (Q : Option Value → Heap → List Loc → Prop) : Prop :=
  MetFree l y (head1 (Jvm.Cond.code y code ml rt :: ws) rm) (fun a U => a = as' ∧ Z.Warmed39 U.vm ∧ U.heap = h0) (fun _ _ _ _ _ => True) (fun _ U o U' => ∃ v L, o = .returned v ∧ Q v U'.heap L ∧ FrameEnd U o U' L rm.cells rm.slots)
theorem Con.of {y : MethodName} {code : ByteArray} {ml : Nat} {rt : Option FieldType} {ws : List Jvm.Cond} {rm : Room} {as' : Array Value} {h0 : Heap} {Q : Option Value → Heap → List Loc → Prop} (hp : plainFor y = true)
    (k : ∀ (p : Program) (e : Env) (s : State) (m : MethodId) (below : List Frame) (meth : Method) (c : Code) (s₁ : State), p.tables.exec = Jvm.exec → Z.Warmed39 s.vm → c.code = code → c.maxLocals = ml → s.vm.findClass y.cls = some m.cls → meth.name = y.name → meth.sig.returnType = rt → meth.locks = false →
      Stand p l e rm s m as' below meth c s₁ [] 0 0 → s₁.heap = h0 → Ends p e below s Q rm.cells rm.slots s₁ (entryFrame m as' ml)) : Con l y code ml rt ws rm as' Z h0 Q := by
  refine MetFree.of_bodySF hp hisR ?_
  intro p e s m args below meth c s₁ Bd hml0 hP hK
  obtain ⟨rfl, hZ, hh⟩ := hP
  exact k p e s m below meth c s₁ Bd.exec hZ Bd.bytes hml0 (findClass_of_methodNamed Bd.named) (name_of_methodNamed Bd.named Bd.method).1 Bd.returns Bd.notSynchronized (Stand.of_body Bd) (by rw [← hh, Bd.state]; rfl)
theorem Ends.ret (X : Stand p l e R s m args below meth c T locs cells slots) (hx : p.tables.exec = Jvm.exec) (hlk : meth.locks = false) {pc : Nat} {Ls : Array Slot} {w : Value} {t : FieldType} {i : Instr} {rest : List Value} (hret : meth.sig.returnType = some t) (hn : narrow t w = w)
    (hi : (i = .ireturn ∧ (t = .int ∨ t = .boolean ∨ t = .byte ∨ t = .char ∨ t = .short) ∧ ∃ z, w = .int z) ∨ (i = .lreturn ∧ t = .long ∧ ∃ z, w = .long z) ∨ (i = .dreturn ∧ t = .double ∧ ∃ z, w = .double z) ∨ (i = .freturn ∧ t = .float ∧ ∃ z, w = .float z) ∨ (i = .areturn ∧ t.isReference = true ∧ w.isRef = true))
    (hd : decode c.code pc = .ok (i, 1)) (hc : cells ≤ kc) (hs : slots ≤ ks) (hQ : Qb (some w) T.heap locs) : Ends p e below s Qb kc ks T (mkF m pc Ls (w :: rest)) := by
  obtain ⟨fs, hr, hrun, hended, hW, hsame⟩ := X.leave (v := some w) (fun h => by rw [hret] at h; cases h) hlk
  exact ⟨_, _, retOut X hx hret hn hi hd hr, hrun, hended, _, _, rfl, hQ, ⟨_, rfl⟩, hW, hsame.mono hc hs⟩
theorem Ends.retI (X : Stand p l e R s m args below meth c T locs cells slots) (hx : p.tables.exec = Jvm.exec) (hlk : meth.locks = false) {pc : Nat} {Ls : Array Slot} {z : Int32} {rest : List Value} (hret : meth.sig.returnType = some .int) (hd : decode c.code pc = .ok (.ireturn, 1)) (hc : cells ≤ kc) (hs : slots ≤ ks) (hQ : Qb (some (.int z)) T.heap locs) : Ends p e below s Qb kc ks T (mkF m pc Ls (.int z :: rest)) :=
  Ends.ret X hx hlk hret rfl (Or.inl ⟨rfl, Or.inl rfl, _, rfl⟩) hd hc hs hQ
theorem Ends.retJ (X : Stand p l e R s m args below meth c T locs cells slots) (hx : p.tables.exec = Jvm.exec) (hlk : meth.locks = false) {pc : Nat} {Ls : Array Slot} {z : Int64} {rest : List Value} (hret : meth.sig.returnType = some .long) (hd : decode c.code pc = .ok (.lreturn, 1)) (hc : cells ≤ kc) (hs : slots ≤ ks) (hQ : Qb (some (.long z)) T.heap locs) : Ends p e below s Qb kc ks T (mkF m pc Ls (.long z :: rest)) :=
  Ends.ret X hx hlk hret rfl (Or.inr (Or.inl ⟨rfl, rfl, _, rfl⟩)) hd hc hs hQ
theorem Ends.retS (X : Stand p l e R s m args below meth c T locs cells slots) (hx : p.tables.exec = Jvm.exec) (hlk : meth.locks = false) {pc : Nat} {Ls : Array Slot} {z : Int32} {t : FieldType} {rest : List Value} (hret : meth.sig.returnType = some t) (ht : t = .boolean ∨ t = .byte ∨ t = .char ∨ t = .short) (hn : narrow t (.int z) = .int z) (hd : decode c.code pc = .ok (.ireturn, 1)) (hc : cells ≤ kc) (hs : slots ≤ ks) (hQ : Qb (some (.int z)) T.heap locs) : Ends p e below s Qb kc ks T (mkF m pc Ls (.int z :: rest)) :=
  Ends.ret X hx hlk hret hn (Or.inl ⟨rfl, Or.inr ht, _, rfl⟩) hd hc hs hQ
theorem Ends.retA (X : Stand p l e R s m args below meth c T locs cells slots) (hx : p.tables.exec = Jvm.exec) (hlk : meth.locks = false) {pc : Nat} {Ls : Array Slot} {w : Value} {t : FieldType} {rest : List Value} (hret : meth.sig.returnType = some t) (ht : t.isReference = true) (hw : w.isRef = true) (hn : narrow t w = w) (hd : decode c.code pc = .ok (.areturn, 1)) (hc : cells ≤ kc) (hs : slots ≤ ks) (hQ : Qb (some w) T.heap locs) : Ends p e below s Qb kc ks T (mkF m pc Ls (w :: rest)) :=
  Ends.ret X hx hlk hret hn (Or.inr (Or.inr (Or.inr (Or.inr ⟨rfl, ht, hw⟩)))) hd hc hs hQ
theorem Ends.retV (X : Stand p l e R s m args below meth c T locs cells slots) (hx : p.tables.exec = Jvm.exec) (hlk : meth.locks = false) {pc : Nat} {Ls : Array Slot} (hret : meth.sig.returnType = none) (hd : decode c.code pc = .ok (.return_, 1)) (hc : cells ≤ kc) (hs : slots ≤ ks) (hQ : Qb none T.heap locs) : Ends p e below s Qb kc ks T (mkF m pc Ls []) := by
  obtain ⟨fs, hr, hrun, hended, hW, hsame⟩ := X.leave (v := none) (fun _ => rfl) hlk
  exact ⟨_, _, X.returnOut hx hret hd hr, hrun, hended, _, _, rfl, hQ, ⟨_, rfl⟩, hW, hsame.mono hc hs⟩
/-- a static call by its contract -/
theorem Ends.callS (X : Stand p l e R s m args below meth c T locs cells slots) (hx : p.tables.exec = Jvm.exec) (hZ : Z.Warmed39 s.vm) {own : String} (hown : s.vm.findClass own = some m.cls) {index : Nat} {y : MethodName} {bytes : ByteArray} {maxL : Nat} {rt : Option FieldType} {rm : Room} {Q : Option Value → Heap → List Loc → Prop}
    (w1 : (Jvm.Cond.methodLink own index y).before a0 Z = true) (w2 : (Jvm.Cond.static y).before a0 Z = true) (w3 : (Jvm.Cond.initialized y.cls).before a0 Z = true) (w4 : (Jvm.Cond.code y bytes maxL rt).before a0 Z = true) (hy : y.cls ≠ "java/lang/invoke/MethodHandle" ∧ y.cls ≠ "java/lang/invoke/VarHandle")
    {argsL rest : List Value} (eT : T.heap = h) (M : Con l y bytes maxL rt [] rm argsL.toArray Z h Q) {W pc : Nat} (hf : rm.frames + 1 ≤ R.frames) (hl : W + (maxL + 11) + rm.locals ≤ R.locals) {Ls : Array Slot} (hsz : Ls.size = c.maxLocals)
    (hlen : ∀ sig, parseMethodDescriptor y.desc = some sig → argsL.length = sig.parameters.length) (hW : (rest.map fun v => v.category).sum ≤ W) (hd : decode c.code pc = .ok (.invokestatic index, 3)) (hc : cells + rm.cells ≤ R.cells) (hs : slots + rm.slots ≤ R.slots) {st : List Value} (hst : st = argsL.reverse ++ rest)
    (k : ∀ T' v L, Stand p l e R s m args below meth c T' (locs ++ L) (cells + rm.cells) (slots + rm.slots) → Q v T'.heap L → Ends p e below s Qb kc ks T' (mkF m (pc + 3) Ls (v.toList ++ rest))) :
    Ends p e below s Qb kc ks T (mkF m pc Ls st) := by
  obtain ⟨v, vm1, ⟨T1, L1, k1, n1⟩, -, X1, ⟨Lc, hQ, q1, q2, q3⟩, st1⟩ := Jvm.LawKit.callS X hx hown (mvT hZ w1) (mvT hZ w2) (mvT hZ w3) (mvT hZ w4) hy (backOf (W := W) M hZ w4 w3 hf hl) (g := mkF m pc Ls st) rfl hsz (argsL := argsL) (rest := rest) hlen hst (by show 2 * 0 + _ ≤ _; omega) hd (fun _ _ => ⟨rfl, eT, hc, hs⟩)
  dsimp only [Pt.U, Pt.locs, Pt.cells, Pt.slots] at X1 q1 q2 q3 st1 hQ
  subst q1 q2 q3
  exact Ends.go st1 (k T1 v Lc X1 hQ)
/-- a constructor by its contract -/
theorem Ends.callI (X : Stand p l e R s m args below meth c T locs cells slots) (hx : p.tables.exec = Jvm.exec) (hZ : Z.Warmed39 s.vm) {own : String} (hown : s.vm.findClass own = some m.cls) {index : Nat} {y : MethodName} {bytes : ByteArray} {maxL : Nat} {rm : Room} {Q : Option Value → Heap → List Loc → Prop}
    (w1 : (Jvm.Cond.methodLink own index y).before a0 Z = true) (w2 : (Jvm.Cond.instanceMethod y).before a0 Z = true) (w3 : (Jvm.Cond.initialized y.cls).before a0 Z = true) (w4 : (Jvm.Cond.code y bytes maxL none).before a0 Z = true) (hyn : y.name = "<init>") (hy : y.cls ≠ "java/lang/invoke/MethodHandle" ∧ y.cls ≠ "java/lang/invoke/VarHandle")
    {b : Addr} {argsL rest : List Value} (eT : T.heap = h) (M : Con l y bytes maxL none [] rm (.ref b :: argsL).toArray Z h Q) {W pc : Nat} (hf : rm.frames + 1 ≤ R.frames) (hl : W + (maxL + 11) + rm.locals ≤ R.locals) {Ls : Array Slot} (hsz : Ls.size = c.maxLocals)
    (hlen : ∀ sig, parseMethodDescriptor y.desc = some sig → argsL.length = sig.parameters.length) (hW : (rest.map fun v => v.category).sum ≤ W) (hd : decode c.code pc = .ok (.invokespecial index, 3)) (hc : cells + rm.cells ≤ R.cells) (hs : slots + rm.slots ≤ R.slots) {st : List Value} (hst : st = argsL.reverse ++ .ref b :: rest)
    (k : ∀ T' v L, Stand p l e R s m args below meth c T' (locs ++ L) (cells + rm.cells) (slots + rm.slots) → Q v T'.heap L → Ends p e below s Qb kc ks T' (mkF m (pc + 3) Ls (v.toList ++ rest))) :
    Ends p e below s Qb kc ks T (mkF m pc Ls st) := by
  obtain ⟨v, vm1, ⟨T1, L1, k1, n1⟩, -, X1, ⟨Lc, hQ, q1, q2, q3⟩, st1⟩ := X.specialBack hx hyn hown (mvT hZ w1) (mvT hZ w2) (mvT hZ w4) hy (backOf (W := W) M hZ w4 w3 hf hl) (g := mkF m pc Ls st) rfl hsz (Steps.refl _) (a := b) (argsL := argsL) (rest := rest) hlen hst (by show 2 * 0 + _ ≤ _; omega) hd (fun _ _ => ⟨rfl, eT, hc, hs⟩)
  dsimp only [Pt.U, Pt.locs, Pt.cells, Pt.slots] at X1 q1 q2 q3 st1 hQ
  subst q1 q2 q3
  exact Ends.go (fun t kt => st1.trans kt) (k T1 v Lc X1 hQ)
/-- an instance method by its contract -/
theorem Ends.callV (X : Stand p l e R s m args below meth c T locs cells slots) (hx : p.tables.exec = Jvm.exec) (hZ : Z.Warmed39 s.vm) {own C : String} (hown : s.vm.findClass own = some m.cls) {index : Nat} {y : MethodName} {bytes : ByteArray} {maxL : Nat} {rt : Option FieldType} {rm : Room} {Q : Option Value → Heap → List Loc → Prop}
    (w1 : (Jvm.Cond.methodLink own index y).before a0 Z = true) (w2 : (Jvm.Cond.declares y).before a0 Z = true) (w5 : (Jvm.Cond.selects C y y).before a0 Z = true) (w6 : (Jvm.Cond.instanceMethod y).before a0 Z = true) (w3 : (Jvm.Cond.initialized y.cls).before a0 Z = true) (w4 : (Jvm.Cond.code y bytes maxL rt).before a0 Z = true) (hy : y.cls ≠ "java/lang/invoke/MethodHandle" ∧ y.cls ≠ "java/lang/invoke/VarHandle")
    {b : Addr} {argsL rest : List Value} (eT : T.heap = h) (E : Exa Z h b C) (M : Con l y bytes maxL rt [] rm (.ref b :: argsL).toArray Z h Q) {W pc : Nat} (hf : rm.frames + 1 ≤ R.frames) (hl : W + (maxL + 11) + rm.locals ≤ R.locals) {Ls : Array Slot} (hsz : Ls.size = c.maxLocals)
    (hlen : ∀ sig, parseMethodDescriptor y.desc = some sig → argsL.length = sig.parameters.length) (hW : (rest.map fun v => v.category).sum ≤ W) (hd : decode c.code pc = .ok (.invokevirtual index, 3)) (hc : cells + rm.cells ≤ R.cells) (hs : slots + rm.slots ≤ R.slots) {st : List Value} (hst : st = argsL.reverse ++ .ref b :: rest)
    (k : ∀ T' v L, Stand p l e R s m args below meth c T' (locs ++ L) (cells + rm.cells) (slots + rm.slots) → Q v T'.heap L → Ends p e below s Qb kc ks T' (mkF m (pc + 3) Ls (v.toList ++ rest))) :
    Ends p e below s Qb kc ks T (mkF m pc Ls st) := by
  obtain ⟨cq, kq, qa, qb, qc⟩ := isOf (T := T) hZ eT E
  obtain ⟨v, vm1, ⟨T1, L1, k1, n1⟩, -, X1, ⟨Lc, hQ, q1, q2, q3⟩, st1⟩ := X.virtualBack hx (y := y) (z := y) hown (mvT hZ w1) (mvT hZ w2) (notFace_of_selects (args := #[]) (mvT hZ w5)) (mvT hZ w5) (mvT hZ w6) hy (backOf (W := W) M hZ w4 w3 hf hl) qa qc (g := mkF m pc Ls st) rfl hsz (Steps.refl _) (argsL := argsL) (rest := rest) hlen hst (by show 2 * 0 + _ ≤ _; omega) hd (fun _ _ => ⟨rfl, eT, hc, hs⟩)
  dsimp only [Pt.U, Pt.locs, Pt.cells, Pt.slots] at X1 q1 q2 q3 st1 hQ
  subst q1 q2 q3
  exact Ends.go (fun t kt => st1.trans kt) (k T1 v Lc X1 hQ)
end OwnKit
/-! own text, printed by mksteps.py: one lemma a plain instruction -/
section OwnSteps
variable {p : Program} {l : Launch} {e : Env} {R : Room} {s : State} {m : MethodId} {args : Array Value} {below : List Frame} {meth : Method} {c : Code} {T : State} {locs : List Loc} {cells slots : Nat} {Z : State} {a0 : Array Value} {h : Heap} {Qb : Option Value → Heap → List Loc → Prop} {kc ks : Nat} {Ls l' : Array Slot} {st : List Value} {pc q k : Nat} {kf : Fin 4} {k2 : Fin 2}
theorem E.iload {v : Int32} (X : Stand p l e R s m args below meth c T locs cells slots) (hx : p.tables.exec = Jvm.exec) (hd : decode c.code pc = .ok (.iload k, 2)) (hl : Ls[k]? = some (.val (.int v))) (k' : Ends p e below s Qb kc ks T (mkF m q Ls (.int v :: st))) (hq : pc + 2 = q := by rfl) : Ends p e below s Qb kc ks T (mkF m pc Ls st) := by
  subst hq; exact Ends.go (fun t => XS.iload X.here hx rfl hd hl) k'
theorem E.iloadN {v : Int32} (X : Stand p l e R s m args below meth c T locs cells slots) (hx : p.tables.exec = Jvm.exec) (hd : decode c.code pc = .ok (.iload_n kf, 1)) (hl : Ls[kf.val]? = some (.val (.int v))) (k' : Ends p e below s Qb kc ks T (mkF m q Ls (.int v :: st))) (hq : pc + 1 = q := by rfl) : Ends p e below s Qb kc ks T (mkF m pc Ls st) := by
  subst hq; exact Ends.go (fun t => XS.iloadN X.here hx rfl hd hl) k'
theorem E.istore {v : Int32} (X : Stand p l e R s m args below meth c T locs cells slots) (hx : p.tables.exec = Jvm.exec) (hd : decode c.code pc = .ok (.istore k, 2)) (hl : storeLocals Ls k (.int v) = some l') (k' : Ends p e below s Qb kc ks T (mkF m q l' st)) (hq : pc + 2 = q := by rfl) : Ends p e below s Qb kc ks T (mkF m pc Ls (.int v :: st)) := by
  subst hq; exact Ends.go (fun t => XS.istore X.here hx rfl hd rfl hl) k'
theorem E.istoreN {v : Int32} (X : Stand p l e R s m args below meth c T locs cells slots) (hx : p.tables.exec = Jvm.exec) (hd : decode c.code pc = .ok (.istore_n kf, 1)) (hl : storeLocals Ls kf.val (.int v) = some l') (k' : Ends p e below s Qb kc ks T (mkF m q l' st)) (hq : pc + 1 = q := by rfl) : Ends p e below s Qb kc ks T (mkF m pc Ls (.int v :: st)) := by
  subst hq; exact Ends.go (fun t => XS.istoreN X.here hx rfl hd rfl hl) k'
theorem E.lload {v : Int64} (X : Stand p l e R s m args below meth c T locs cells slots) (hx : p.tables.exec = Jvm.exec) (hd : decode c.code pc = .ok (.lload k, 2)) (hl : Ls[k]? = some (.val (.long v))) (k' : Ends p e below s Qb kc ks T (mkF m q Ls (.long v :: st))) (hq : pc + 2 = q := by rfl) : Ends p e below s Qb kc ks T (mkF m pc Ls st) := by
  subst hq; exact Ends.go (fun t => XS.lload X.here hx rfl hd hl) k'
theorem E.lloadN {v : Int64} (X : Stand p l e R s m args below meth c T locs cells slots) (hx : p.tables.exec = Jvm.exec) (hd : decode c.code pc = .ok (.lload_n kf, 1)) (hl : Ls[kf.val]? = some (.val (.long v))) (k' : Ends p e below s Qb kc ks T (mkF m q Ls (.long v :: st))) (hq : pc + 1 = q := by rfl) : Ends p e below s Qb kc ks T (mkF m pc Ls st) := by
  subst hq; exact Ends.go (fun t => XS.lloadN X.here hx rfl hd hl) k'
theorem E.lstore {v : Int64} (X : Stand p l e R s m args below meth c T locs cells slots) (hx : p.tables.exec = Jvm.exec) (hd : decode c.code pc = .ok (.lstore k, 2)) (hl : storeLocals Ls k (.long v) = some l') (k' : Ends p e below s Qb kc ks T (mkF m q l' st)) (hq : pc + 2 = q := by rfl) : Ends p e below s Qb kc ks T (mkF m pc Ls (.long v :: st)) := by
  subst hq; exact Ends.go (fun t => XS.lstore X.here hx rfl hd rfl hl) k'
theorem E.lstoreN {v : Int64} (X : Stand p l e R s m args below meth c T locs cells slots) (hx : p.tables.exec = Jvm.exec) (hd : decode c.code pc = .ok (.lstore_n kf, 1)) (hl : storeLocals Ls kf.val (.long v) = some l') (k' : Ends p e below s Qb kc ks T (mkF m q l' st)) (hq : pc + 1 = q := by rfl) : Ends p e below s Qb kc ks T (mkF m pc Ls (.long v :: st)) := by
  subst hq; exact Ends.go (fun t => XS.lstoreN X.here hx rfl hd rfl hl) k'
theorem E.dload {v : UInt64} (X : Stand p l e R s m args below meth c T locs cells slots) (hx : p.tables.exec = Jvm.exec) (hd : decode c.code pc = .ok (.dload k, 2)) (hl : Ls[k]? = some (.val (.double v))) (k' : Ends p e below s Qb kc ks T (mkF m q Ls (.double v :: st))) (hq : pc + 2 = q := by rfl) : Ends p e below s Qb kc ks T (mkF m pc Ls st) := by
  subst hq; exact Ends.go (fun t => XS.dload X.here hx rfl hd hl) k'
theorem E.dloadN {v : UInt64} (X : Stand p l e R s m args below meth c T locs cells slots) (hx : p.tables.exec = Jvm.exec) (hd : decode c.code pc = .ok (.dload_n kf, 1)) (hl : Ls[kf.val]? = some (.val (.double v))) (k' : Ends p e below s Qb kc ks T (mkF m q Ls (.double v :: st))) (hq : pc + 1 = q := by rfl) : Ends p e below s Qb kc ks T (mkF m pc Ls st) := by
  subst hq; exact Ends.go (fun t => XS.dloadN X.here hx rfl hd hl) k'
theorem E.dstore {v : UInt64} (X : Stand p l e R s m args below meth c T locs cells slots) (hx : p.tables.exec = Jvm.exec) (hd : decode c.code pc = .ok (.dstore k, 2)) (hl : storeLocals Ls k (.double v) = some l') (k' : Ends p e below s Qb kc ks T (mkF m q l' st)) (hq : pc + 2 = q := by rfl) : Ends p e below s Qb kc ks T (mkF m pc Ls (.double v :: st)) := by
  subst hq; exact Ends.go (fun t => XS.dstore X.here hx rfl hd rfl hl) k'
theorem E.dstoreN {v : UInt64} (X : Stand p l e R s m args below meth c T locs cells slots) (hx : p.tables.exec = Jvm.exec) (hd : decode c.code pc = .ok (.dstore_n kf, 1)) (hl : storeLocals Ls kf.val (.double v) = some l') (k' : Ends p e below s Qb kc ks T (mkF m q l' st)) (hq : pc + 1 = q := by rfl) : Ends p e below s Qb kc ks T (mkF m pc Ls (.double v :: st)) := by
  subst hq; exact Ends.go (fun t => XS.dstoreN X.here hx rfl hd rfl hl) k'
theorem E.aload {v : Value} (X : Stand p l e R s m args below meth c T locs cells slots) (hx : p.tables.exec = Jvm.exec) (hd : decode c.code pc = .ok (.aload k, 2)) (hl : Ls[k]? = some (.val v)) (hv : v.isRef = true) (k' : Ends p e below s Qb kc ks T (mkF m q Ls (v :: st))) (hq : pc + 2 = q := by rfl) : Ends p e below s Qb kc ks T (mkF m pc Ls st) := by
  subst hq; exact Ends.go (fun t => XS.aload X.here hx rfl hd hl hv) k'
theorem E.aloadN {v : Value} (X : Stand p l e R s m args below meth c T locs cells slots) (hx : p.tables.exec = Jvm.exec) (hd : decode c.code pc = .ok (.aload_n kf, 1)) (hl : Ls[kf.val]? = some (.val v)) (hv : v.isRef = true) (k' : Ends p e below s Qb kc ks T (mkF m q Ls (v :: st))) (hq : pc + 1 = q := by rfl) : Ends p e below s Qb kc ks T (mkF m pc Ls st) := by
  subst hq; exact Ends.go (fun t => XS.aloadN X.here hx rfl hd hl hv) k'
theorem E.astore {v : Value} (X : Stand p l e R s m args below meth c T locs cells slots) (hx : p.tables.exec = Jvm.exec) (hd : decode c.code pc = .ok (.astore k, 2)) (hv : v.isRef = true) (hl : storeLocals Ls k v = some l') (k' : Ends p e below s Qb kc ks T (mkF m q l' st)) (hq : pc + 2 = q := by rfl) : Ends p e below s Qb kc ks T (mkF m pc Ls (v :: st)) := by
  subst hq; exact Ends.go (fun t => XS.astore X.here hx rfl hd rfl hv hl) k'
theorem E.astoreN {v : Value} (X : Stand p l e R s m args below meth c T locs cells slots) (hx : p.tables.exec = Jvm.exec) (hd : decode c.code pc = .ok (.astore_n kf, 1)) (hv : v.isRef = true) (hl : storeLocals Ls kf.val v = some l') (k' : Ends p e below s Qb kc ks T (mkF m q l' st)) (hq : pc + 1 = q := by rfl) : Ends p e below s Qb kc ks T (mkF m pc Ls (v :: st)) := by
  subst hq; exact Ends.go (fun t => XS.astoreN X.here hx rfl hd rfl hv hl) k'
theorem E.iconst {i : Int} {v : Int32} (X : Stand p l e R s m args below meth c T locs cells slots) (hx : p.tables.exec = Jvm.exec) (hd : decode c.code pc = .ok (.iconst i, 1)) (hv : Int32.ofInt i = v) (k' : Ends p e below s Qb kc ks T (mkF m q Ls (.int v :: st))) (hq : pc + 1 = q := by rfl) : Ends p e below s Qb kc ks T (mkF m pc Ls st) := by
  subst hq; subst hv; exact Ends.go (fun t => XS.iconst X.here hx rfl hd) k'
theorem E.bipush {i : Int} {v : Int32} (X : Stand p l e R s m args below meth c T locs cells slots) (hx : p.tables.exec = Jvm.exec) (hd : decode c.code pc = .ok (.bipush i, 2)) (hv : (Int8.ofInt i).toInt32 = v) (k' : Ends p e below s Qb kc ks T (mkF m q Ls (.int v :: st))) (hq : pc + 2 = q := by rfl) : Ends p e below s Qb kc ks T (mkF m pc Ls st) := by
  subst hq; subst hv; exact Ends.go (fun t => XS.bipush X.here hx rfl hd) k'
theorem E.sipush {i : Int} {v : Int32} (X : Stand p l e R s m args below meth c T locs cells slots) (hx : p.tables.exec = Jvm.exec) (hd : decode c.code pc = .ok (.sipush i, 3)) (hv : (Int16.ofInt i).toInt32 = v) (k' : Ends p e below s Qb kc ks T (mkF m q Ls (.int v :: st))) (hq : pc + 3 = q := by rfl) : Ends p e below s Qb kc ks T (mkF m pc Ls st) := by
  subst hq; subst hv; exact Ends.go (fun t => XS.sipush X.here hx rfl hd) k'
theorem E.lconst {v : Int64} (X : Stand p l e R s m args below meth c T locs cells slots) (hx : p.tables.exec = Jvm.exec) (hd : decode c.code pc = .ok (.lconst k2, 1)) (hv : Int64.ofNat k2 = v) (k' : Ends p e below s Qb kc ks T (mkF m q Ls (.long v :: st))) (hq : pc + 1 = q := by rfl) : Ends p e below s Qb kc ks T (mkF m pc Ls st) := by
  subst hq; subst hv; exact Ends.go (fun t => XS.lconst X.here hx rfl hd) k'
theorem E.dconst0 {v : UInt64} (X : Stand p l e R s m args below meth c T locs cells slots) (hx : p.tables.exec = Jvm.exec) (hd : decode c.code pc = .ok (.dconst 0, 1)) (hv : FP.dconst0 = v) (k' : Ends p e below s Qb kc ks T (mkF m q Ls (.double v :: st))) (hq : pc + 1 = q := by rfl) : Ends p e below s Qb kc ks T (mkF m pc Ls st) := by
  subst hq; exact Ends.go (fun t => XS.dconst0 X.here hx rfl hd hv) k'
theorem E.dconst1 {v : UInt64} (X : Stand p l e R s m args below meth c T locs cells slots) (hx : p.tables.exec = Jvm.exec) (hd : decode c.code pc = .ok (.dconst 1, 1)) (hv : FP.dconst1 = v) (k' : Ends p e below s Qb kc ks T (mkF m q Ls (.double v :: st))) (hq : pc + 1 = q := by rfl) : Ends p e below s Qb kc ks T (mkF m pc Ls st) := by
  subst hq; exact Ends.go (fun t => XS.dconst1 X.here hx rfl hd hv) k'
theorem E.aconstNull  (X : Stand p l e R s m args below meth c T locs cells slots) (hx : p.tables.exec = Jvm.exec) (hd : decode c.code pc = .ok (.aconst_null, 1)) (k' : Ends p e below s Qb kc ks T (mkF m q Ls (.null :: st))) (hq : pc + 1 = q := by rfl) : Ends p e below s Qb kc ks T (mkF m pc Ls st) := by
  subst hq; exact Ends.go (fun t => XS.aconstNull X.here hx rfl hd) k'
theorem E.iadd {x y : Int32} (X : Stand p l e R s m args below meth c T locs cells slots) (hx : p.tables.exec = Jvm.exec) (hd : decode c.code pc = .ok (.iadd, 1)) (k' : Ends p e below s Qb kc ks T (mkF m q Ls (.int (x + y) :: st))) (hq : pc + 1 = q := by rfl) : Ends p e below s Qb kc ks T (mkF m pc Ls (.int y :: .int x :: st)) := by
  subst hq; exact Ends.go (fun t => XS.iadd X.here hx rfl hd rfl) k'
theorem E.isub {x y : Int32} (X : Stand p l e R s m args below meth c T locs cells slots) (hx : p.tables.exec = Jvm.exec) (hd : decode c.code pc = .ok (.isub, 1)) (k' : Ends p e below s Qb kc ks T (mkF m q Ls (.int (x - y) :: st))) (hq : pc + 1 = q := by rfl) : Ends p e below s Qb kc ks T (mkF m pc Ls (.int y :: .int x :: st)) := by
  subst hq; exact Ends.go (fun t => XS.isub X.here hx rfl hd rfl) k'
theorem E.imul {x y : Int32} (X : Stand p l e R s m args below meth c T locs cells slots) (hx : p.tables.exec = Jvm.exec) (hd : decode c.code pc = .ok (.imul, 1)) (k' : Ends p e below s Qb kc ks T (mkF m q Ls (.int (x * y) :: st))) (hq : pc + 1 = q := by rfl) : Ends p e below s Qb kc ks T (mkF m pc Ls (.int y :: .int x :: st)) := by
  subst hq; exact Ends.go (fun t => XS.imul X.here hx rfl hd rfl) k'
theorem E.iand {x y : Int32} (X : Stand p l e R s m args below meth c T locs cells slots) (hx : p.tables.exec = Jvm.exec) (hd : decode c.code pc = .ok (.iand, 1)) (k' : Ends p e below s Qb kc ks T (mkF m q Ls (.int (x &&& y) :: st))) (hq : pc + 1 = q := by rfl) : Ends p e below s Qb kc ks T (mkF m pc Ls (.int y :: .int x :: st)) := by
  subst hq; exact Ends.go (fun t => XS.iand X.here hx rfl hd rfl) k'
theorem E.ior {x y : Int32} (X : Stand p l e R s m args below meth c T locs cells slots) (hx : p.tables.exec = Jvm.exec) (hd : decode c.code pc = .ok (.ior, 1)) (k' : Ends p e below s Qb kc ks T (mkF m q Ls (.int (x ||| y) :: st))) (hq : pc + 1 = q := by rfl) : Ends p e below s Qb kc ks T (mkF m pc Ls (.int y :: .int x :: st)) := by
  subst hq; exact Ends.go (fun t => XS.ior X.here hx rfl hd rfl) k'
theorem E.ixor {x y : Int32} (X : Stand p l e R s m args below meth c T locs cells slots) (hx : p.tables.exec = Jvm.exec) (hd : decode c.code pc = .ok (.ixor, 1)) (k' : Ends p e below s Qb kc ks T (mkF m q Ls (.int (x ^^^ y) :: st))) (hq : pc + 1 = q := by rfl) : Ends p e below s Qb kc ks T (mkF m pc Ls (.int y :: .int x :: st)) := by
  subst hq; exact Ends.go (fun t => XS.ixor X.here hx rfl hd rfl) k'
theorem E.ladd {x y : Int64} (X : Stand p l e R s m args below meth c T locs cells slots) (hx : p.tables.exec = Jvm.exec) (hd : decode c.code pc = .ok (.ladd, 1)) (k' : Ends p e below s Qb kc ks T (mkF m q Ls (.long (x + y) :: st))) (hq : pc + 1 = q := by rfl) : Ends p e below s Qb kc ks T (mkF m pc Ls (.long y :: .long x :: st)) := by
  subst hq; exact Ends.go (fun t => XS.ladd X.here hx rfl hd rfl) k'
theorem E.lsub {x y : Int64} (X : Stand p l e R s m args below meth c T locs cells slots) (hx : p.tables.exec = Jvm.exec) (hd : decode c.code pc = .ok (.lsub, 1)) (k' : Ends p e below s Qb kc ks T (mkF m q Ls (.long (x - y) :: st))) (hq : pc + 1 = q := by rfl) : Ends p e below s Qb kc ks T (mkF m pc Ls (.long y :: .long x :: st)) := by
  subst hq; exact Ends.go (fun t => XS.lsub X.here hx rfl hd rfl) k'
theorem E.lmul {x y : Int64} (X : Stand p l e R s m args below meth c T locs cells slots) (hx : p.tables.exec = Jvm.exec) (hd : decode c.code pc = .ok (.lmul, 1)) (k' : Ends p e below s Qb kc ks T (mkF m q Ls (.long (x * y) :: st))) (hq : pc + 1 = q := by rfl) : Ends p e below s Qb kc ks T (mkF m pc Ls (.long y :: .long x :: st)) := by
  subst hq; exact Ends.go (fun t => XS.lmul X.here hx rfl hd rfl) k'
theorem E.land {x y : Int64} (X : Stand p l e R s m args below meth c T locs cells slots) (hx : p.tables.exec = Jvm.exec) (hd : decode c.code pc = .ok (.land, 1)) (k' : Ends p e below s Qb kc ks T (mkF m q Ls (.long (x &&& y) :: st))) (hq : pc + 1 = q := by rfl) : Ends p e below s Qb kc ks T (mkF m pc Ls (.long y :: .long x :: st)) := by
  subst hq; exact Ends.go (fun t => XS.land X.here hx rfl hd rfl) k'
theorem E.lor {x y : Int64} (X : Stand p l e R s m args below meth c T locs cells slots) (hx : p.tables.exec = Jvm.exec) (hd : decode c.code pc = .ok (.lor, 1)) (k' : Ends p e below s Qb kc ks T (mkF m q Ls (.long (x ||| y) :: st))) (hq : pc + 1 = q := by rfl) : Ends p e below s Qb kc ks T (mkF m pc Ls (.long y :: .long x :: st)) := by
  subst hq; exact Ends.go (fun t => XS.lor X.here hx rfl hd rfl) k'
theorem E.lxor {x y : Int64} (X : Stand p l e R s m args below meth c T locs cells slots) (hx : p.tables.exec = Jvm.exec) (hd : decode c.code pc = .ok (.lxor, 1)) (k' : Ends p e below s Qb kc ks T (mkF m q Ls (.long (x ^^^ y) :: st))) (hq : pc + 1 = q := by rfl) : Ends p e below s Qb kc ks T (mkF m pc Ls (.long y :: .long x :: st)) := by
  subst hq; exact Ends.go (fun t => XS.lxor X.here hx rfl hd rfl) k'
theorem E.ishl {x : Int32} {y : Int32} (X : Stand p l e R s m args below meth c T locs cells slots) (hx : p.tables.exec = Jvm.exec) (hd : decode c.code pc = .ok (.ishl, 1)) (k' : Ends p e below s Qb kc ks T (mkF m q Ls (.int (x <<< (y &&& 31)) :: st))) (hq : pc + 1 = q := by rfl) : Ends p e below s Qb kc ks T (mkF m pc Ls (.int y :: .int x :: st)) := by
  subst hq; exact Ends.go (fun t => XS.ishl X.here hx rfl hd rfl) k'
theorem E.ishr {x : Int32} {y : Int32} (X : Stand p l e R s m args below meth c T locs cells slots) (hx : p.tables.exec = Jvm.exec) (hd : decode c.code pc = .ok (.ishr, 1)) (k' : Ends p e below s Qb kc ks T (mkF m q Ls (.int (x >>> (y &&& 31)) :: st))) (hq : pc + 1 = q := by rfl) : Ends p e below s Qb kc ks T (mkF m pc Ls (.int y :: .int x :: st)) := by
  subst hq; exact Ends.go (fun t => XS.ishr X.here hx rfl hd rfl) k'
theorem E.iushr {x : Int32} {y : Int32} (X : Stand p l e R s m args below meth c T locs cells slots) (hx : p.tables.exec = Jvm.exec) (hd : decode c.code pc = .ok (.iushr, 1)) (k' : Ends p e below s Qb kc ks T (mkF m q Ls (.int ((x.toUInt32 >>> (y &&& 31).toUInt32).toInt32) :: st))) (hq : pc + 1 = q := by rfl) : Ends p e below s Qb kc ks T (mkF m pc Ls (.int y :: .int x :: st)) := by
  subst hq; exact Ends.go (fun t => XS.iushr X.here hx rfl hd rfl) k'
theorem E.lshl {x : Int64} {y : Int32} (X : Stand p l e R s m args below meth c T locs cells slots) (hx : p.tables.exec = Jvm.exec) (hd : decode c.code pc = .ok (.lshl, 1)) (k' : Ends p e below s Qb kc ks T (mkF m q Ls (.long (x <<< (y &&& 0x3f).toInt64) :: st))) (hq : pc + 1 = q := by rfl) : Ends p e below s Qb kc ks T (mkF m pc Ls (.int y :: .long x :: st)) := by
  subst hq; exact Ends.go (fun t => XS.lshl X.here hx rfl hd rfl) k'
theorem E.lshr {x : Int64} {y : Int32} (X : Stand p l e R s m args below meth c T locs cells slots) (hx : p.tables.exec = Jvm.exec) (hd : decode c.code pc = .ok (.lshr, 1)) (k' : Ends p e below s Qb kc ks T (mkF m q Ls (.long (x >>> (y &&& 0x3f).toInt64) :: st))) (hq : pc + 1 = q := by rfl) : Ends p e below s Qb kc ks T (mkF m pc Ls (.int y :: .long x :: st)) := by
  subst hq; exact Ends.go (fun t => XS.lshr X.here hx rfl hd rfl) k'
theorem E.lushr {x : Int64} {y : Int32} (X : Stand p l e R s m args below meth c T locs cells slots) (hx : p.tables.exec = Jvm.exec) (hd : decode c.code pc = .ok (.lushr, 1)) (k' : Ends p e below s Qb kc ks T (mkF m q Ls (.long ((x.toUInt64 >>> (y &&& 0x3f).toInt64.toUInt64).toInt64) :: st))) (hq : pc + 1 = q := by rfl) : Ends p e below s Qb kc ks T (mkF m pc Ls (.int y :: .long x :: st)) := by
  subst hq; exact Ends.go (fun t => XS.lushr X.here hx rfl hd rfl) k'
theorem E.ineg {x : Int32} (X : Stand p l e R s m args below meth c T locs cells slots) (hx : p.tables.exec = Jvm.exec) (hd : decode c.code pc = .ok (.ineg, 1)) (k' : Ends p e below s Qb kc ks T (mkF m q Ls (.int (-x) :: st))) (hq : pc + 1 = q := by rfl) : Ends p e below s Qb kc ks T (mkF m pc Ls (.int x :: st)) := by
  subst hq; exact Ends.go (fun t => XS.ineg X.here hx rfl hd rfl) k'
theorem E.lneg {x : Int64} (X : Stand p l e R s m args below meth c T locs cells slots) (hx : p.tables.exec = Jvm.exec) (hd : decode c.code pc = .ok (.lneg, 1)) (k' : Ends p e below s Qb kc ks T (mkF m q Ls (.long (-x) :: st))) (hq : pc + 1 = q := by rfl) : Ends p e below s Qb kc ks T (mkF m pc Ls (.long x :: st)) := by
  subst hq; exact Ends.go (fun t => XS.lneg X.here hx rfl hd rfl) k'
theorem E.i2l {x : Int32} (X : Stand p l e R s m args below meth c T locs cells slots) (hx : p.tables.exec = Jvm.exec) (hd : decode c.code pc = .ok (.i2l, 1)) (k' : Ends p e below s Qb kc ks T (mkF m q Ls (.long (x.toInt64) :: st))) (hq : pc + 1 = q := by rfl) : Ends p e below s Qb kc ks T (mkF m pc Ls (.int x :: st)) := by
  subst hq; exact Ends.go (fun t => XS.i2l X.here hx rfl hd rfl) k'
theorem E.l2i {x : Int64} (X : Stand p l e R s m args below meth c T locs cells slots) (hx : p.tables.exec = Jvm.exec) (hd : decode c.code pc = .ok (.l2i, 1)) (k' : Ends p e below s Qb kc ks T (mkF m q Ls (.int (x.toInt32) :: st))) (hq : pc + 1 = q := by rfl) : Ends p e below s Qb kc ks T (mkF m pc Ls (.long x :: st)) := by
  subst hq; exact Ends.go (fun t => XS.l2i X.here hx rfl hd rfl) k'
theorem E.i2b {x : Int32} (X : Stand p l e R s m args below meth c T locs cells slots) (hx : p.tables.exec = Jvm.exec) (hd : decode c.code pc = .ok (.i2b, 1)) (k' : Ends p e below s Qb kc ks T (mkF m q Ls (.int (x.toInt8.toInt32) :: st))) (hq : pc + 1 = q := by rfl) : Ends p e below s Qb kc ks T (mkF m pc Ls (.int x :: st)) := by
  subst hq; exact Ends.go (fun t => XS.i2b X.here hx rfl hd rfl) k'
theorem E.i2s {x : Int32} (X : Stand p l e R s m args below meth c T locs cells slots) (hx : p.tables.exec = Jvm.exec) (hd : decode c.code pc = .ok (.i2s, 1)) (k' : Ends p e below s Qb kc ks T (mkF m q Ls (.int (x.toInt16.toInt32) :: st))) (hq : pc + 1 = q := by rfl) : Ends p e below s Qb kc ks T (mkF m pc Ls (.int x :: st)) := by
  subst hq; exact Ends.go (fun t => XS.i2s X.here hx rfl hd rfl) k'
theorem E.i2c {x : Int32} (X : Stand p l e R s m args below meth c T locs cells slots) (hx : p.tables.exec = Jvm.exec) (hd : decode c.code pc = .ok (.i2c, 1)) (k' : Ends p e below s Qb kc ks T (mkF m q Ls (.int (x.toUInt32.toUInt16.toUInt32.toInt32) :: st))) (hq : pc + 1 = q := by rfl) : Ends p e below s Qb kc ks T (mkF m pc Ls (.int x :: st)) := by
  subst hq; exact Ends.go (fun t => XS.i2c X.here hx rfl hd rfl) k'
theorem E.i2d {x : Int32} (X : Stand p l e R s m args below meth c T locs cells slots) (hx : p.tables.exec = Jvm.exec) (hd : decode c.code pc = .ok (.i2d, 1)) (k' : Ends p e below s Qb kc ks T (mkF m q Ls (.double (FP.i2d x) :: st))) (hq : pc + 1 = q := by rfl) : Ends p e below s Qb kc ks T (mkF m pc Ls (.int x :: st)) := by
  subst hq; exact Ends.go (fun t => XS.i2dS X.here hx rfl hd rfl rfl) k'
theorem E.lcmp {x y : Int64} (X : Stand p l e R s m args below meth c T locs cells slots) (hx : p.tables.exec = Jvm.exec) (hd : decode c.code pc = .ok (.lcmp, 1)) (k' : Ends p e below s Qb kc ks T (mkF m q Ls (.int (lcmpW x y) :: st))) (hq : pc + 1 = q := by rfl) : Ends p e below s Qb kc ks T (mkF m pc Ls (.long y :: .long x :: st)) := by
  subst hq; exact Ends.go (fun t => XS.lcmp X.here hx rfl hd rfl) k'
theorem E.dcmp {x y : UInt64} {o : CmpOp} (X : Stand p l e R s m args below meth c T locs cells slots) (hx : p.tables.exec = Jvm.exec) (hd : decode c.code pc = .ok (.dcmp o, 1)) (k' : Ends p e below s Qb kc ks T (mkF m q Ls (.int (cmpValue (FP.dcmp x y) o) :: st))) (hq : pc + 1 = q := by rfl) : Ends p e below s Qb kc ks T (mkF m pc Ls (.double y :: .double x :: st)) := by
  subst hq; exact Ends.go (fun t => XS.dcmpS X.here hx rfl hd rfl rfl) k'
theorem E.idiv {x y : Int32} (X : Stand p l e R s m args below meth c T locs cells slots) (hx : p.tables.exec = Jvm.exec) (hd : decode c.code pc = .ok (.idiv, 1)) (hy : ¬ y = 0) (k' : Ends p e below s Qb kc ks T (mkF m q Ls (.int (x / y) :: st))) (hq : pc + 1 = q := by rfl) : Ends p e below s Qb kc ks T (mkF m pc Ls (.int y :: .int x :: st)) := by
  subst hq; exact Ends.go (fun t => XS.idiv X.here hx rfl hd rfl hy) k'
theorem E.irem {x y : Int32} (X : Stand p l e R s m args below meth c T locs cells slots) (hx : p.tables.exec = Jvm.exec) (hd : decode c.code pc = .ok (.irem, 1)) (hy : ¬ y = 0) (k' : Ends p e below s Qb kc ks T (mkF m q Ls (.int (x % y) :: st))) (hq : pc + 1 = q := by rfl) : Ends p e below s Qb kc ks T (mkF m pc Ls (.int y :: .int x :: st)) := by
  subst hq; exact Ends.go (fun t => iremM X hx rfl hd rfl hy) k'
theorem E.ldiv {x y : Int64} (X : Stand p l e R s m args below meth c T locs cells slots) (hx : p.tables.exec = Jvm.exec) (hd : decode c.code pc = .ok (.ldiv, 1)) (hy : ¬ y = 0) (k' : Ends p e below s Qb kc ks T (mkF m q Ls (.long (x / y) :: st))) (hq : pc + 1 = q := by rfl) : Ends p e below s Qb kc ks T (mkF m pc Ls (.long y :: .long x :: st)) := by
  subst hq; exact Ends.go (fun t => XS.ldiv X.here hx rfl hd rfl hy) k'
theorem E.lrem {x y : Int64} (X : Stand p l e R s m args below meth c T locs cells slots) (hx : p.tables.exec = Jvm.exec) (hd : decode c.code pc = .ok (.lrem, 1)) (hy : ¬ y = 0) (k' : Ends p e below s Qb kc ks T (mkF m q Ls (.long (x - (x / y) * y) :: st))) (hq : pc + 1 = q := by rfl) : Ends p e below s Qb kc ks T (mkF m pc Ls (.long y :: .long x :: st)) := by
  subst hq; exact Ends.go (fun t => XS.lrem X.here hx rfl hd rfl hy) k'
theorem E.iinc {x v : Int32} {cst : Int} (X : Stand p l e R s m args below meth c T locs cells slots) (hx : p.tables.exec = Jvm.exec) (hd : decode c.code pc = .ok (.iinc k cst, 3)) (hl : Ls[k]? = some (.val (.int x))) (hv : x + Int32.ofInt cst = v) (hl' : storeLocals Ls k (.int v) = some l') (k' : Ends p e below s Qb kc ks T (mkF m q l' st)) (hq : pc + 3 = q := by rfl) : Ends p e below s Qb kc ks T (mkF m pc Ls st) := by
  subst hq; subst hv; exact Ends.go (fun t => XS.iinc X.here hx rfl hd hl hl') k'
theorem E.dup {v : Value} (X : Stand p l e R s m args below meth c T locs cells slots) (hx : p.tables.exec = Jvm.exec) (hd : decode c.code pc = .ok (.dup, 1)) (hc : v.category = 1) (k' : Ends p e below s Qb kc ks T (mkF m q Ls (v :: v :: st))) (hq : pc + 1 = q := by rfl) : Ends p e below s Qb kc ks T (mkF m pc Ls (v :: st)) := by
  subst hq; exact Ends.go (fun t => XS.dup X.here hx rfl hd rfl hc) k'
theorem E.pop {v : Value} (X : Stand p l e R s m args below meth c T locs cells slots) (hx : p.tables.exec = Jvm.exec) (hd : decode c.code pc = .ok (.pop, 1)) (hc : v.category = 1) (k' : Ends p e below s Qb kc ks T (mkF m q Ls st)) (hq : pc + 1 = q := by rfl) : Ends p e below s Qb kc ks T (mkF m pc Ls (v :: st)) := by
  subst hq; exact Ends.go (fun t => XS.pop X.here hx rfl hd rfl hc) k'
theorem E.dupX1 {v w : Value} (X : Stand p l e R s m args below meth c T locs cells slots) (hx : p.tables.exec = Jvm.exec) (hd : decode c.code pc = .ok (.dup_x1, 1)) (hc : v.category = 1) (hc2 : w.category = 1) (k' : Ends p e below s Qb kc ks T (mkF m q Ls (v :: w :: v :: st))) (hq : pc + 1 = q := by rfl) : Ends p e below s Qb kc ks T (mkF m pc Ls (v :: w :: st)) := by
  subst hq; exact Ends.go (fun t => XS.dupX1 X.here hx rfl hd rfl hc hc2) k'
theorem E.icmpY {x y : Int32} {cd : ClassFile.Cond} {o : Int} (X : Stand p l e R s m args below meth c T locs cells slots) (hx : p.tables.exec = Jvm.exec) (hd : decode c.code pc = .ok (.if_icmp cd o, 3)) (hc : if_icmp.holds cd x y = true) (k' : Ends p e below s Qb kc ks T (mkF m q Ls st)) (ho : 0 ≤ (pc : Int) + o := by decide) (hq : ((pc : Int) + o).toNat = q := by decide) : Ends p e below s Qb kc ks T (mkF m pc Ls (.int y :: .int x :: st)) :=
  Ends.go (fun t => XS.icmpYes X.here hx rfl rfl hd rfl hc ho hq) k'
theorem E.icmpN {x y : Int32} {cd : ClassFile.Cond} {o : Int} (X : Stand p l e R s m args below meth c T locs cells slots) (hx : p.tables.exec = Jvm.exec) (hd : decode c.code pc = .ok (.if_icmp cd o, 3)) (hc : if_icmp.holds cd x y = false) (k' : Ends p e below s Qb kc ks T (mkF m q Ls st)) (hq : pc + 3 = q := by rfl) : Ends p e below s Qb kc ks T (mkF m pc Ls (.int y :: .int x :: st)) := by
  subst hq; exact Ends.go (fun t => XS.icmpNo X.here hx rfl hd rfl hc) k'
theorem E.ifY {x : Int32} {cd : ClassFile.Cond} {o : Int} (X : Stand p l e R s m args below meth c T locs cells slots) (hx : p.tables.exec = Jvm.exec) (hd : decode c.code pc = .ok (.ifCond cd o, 3)) (hc : ifCond.holds cd x = true) (k' : Ends p e below s Qb kc ks T (mkF m q Ls st)) (ho : 0 ≤ (pc : Int) + o := by decide) (hq : ((pc : Int) + o).toNat = q := by decide) : Ends p e below s Qb kc ks T (mkF m pc Ls (.int x :: st)) :=
  Ends.go (fun t => XS.ifYes X.here hx rfl rfl hd rfl hc ho hq) k'
theorem E.ifN {x : Int32} {cd : ClassFile.Cond} {o : Int} (X : Stand p l e R s m args below meth c T locs cells slots) (hx : p.tables.exec = Jvm.exec) (hd : decode c.code pc = .ok (.ifCond cd o, 3)) (hc : ifCond.holds cd x = false) (k' : Ends p e below s Qb kc ks T (mkF m q Ls st)) (hq : pc + 3 = q := by rfl) : Ends p e below s Qb kc ks T (mkF m pc Ls (.int x :: st)) := by
  subst hq; exact Ends.go (fun t => XS.ifNo X.here hx rfl hd rfl hc) k'
theorem E.goto {o : Int} (X : Stand p l e R s m args below meth c T locs cells slots) (hx : p.tables.exec = Jvm.exec) (hd : decode c.code pc = .ok (.goto o, 3)) (k' : Ends p e below s Qb kc ks T (mkF m q Ls st)) (ho : 0 ≤ (pc : Int) + o := by decide) (hq : ((pc : Int) + o).toNat = q := by decide) : Ends p e below s Qb kc ks T (mkF m pc Ls st) :=
  Ends.go (fun t => XS.goto X.here hx rfl rfl hd ho hq) k'
theorem E.nullY {o : Int} (X : Stand p l e R s m args below meth c T locs cells slots) (hx : p.tables.exec = Jvm.exec) (hd : decode c.code pc = .ok (.ifnull o, 3)) (k' : Ends p e below s Qb kc ks T (mkF m q Ls st)) (ho : 0 ≤ (pc : Int) + o := by decide) (hq : ((pc : Int) + o).toNat = q := by decide) : Ends p e below s Qb kc ks T (mkF m pc Ls (.null :: st)) :=
  Ends.go (fun t => XS.ifnullYes X.here hx rfl rfl hd rfl ho hq) k'
theorem E.nullN {o : Int} {b : Addr} (X : Stand p l e R s m args below meth c T locs cells slots) (hx : p.tables.exec = Jvm.exec) (hd : decode c.code pc = .ok (.ifnull o, 3)) (k' : Ends p e below s Qb kc ks T (mkF m q Ls st)) (hq : pc + 3 = q := by rfl) : Ends p e below s Qb kc ks T (mkF m pc Ls (.ref b :: st)) := by
  subst hq; exact Ends.go (fun t => XS.ifnullNo X.here hx rfl hd rfl) k'
theorem E.nonnullY {o : Int} {b : Addr} (X : Stand p l e R s m args below meth c T locs cells slots) (hx : p.tables.exec = Jvm.exec) (hd : decode c.code pc = .ok (.ifnonnull o, 3)) (k' : Ends p e below s Qb kc ks T (mkF m q Ls st)) (ho : 0 ≤ (pc : Int) + o := by decide) (hq : ((pc : Int) + o).toNat = q := by decide) : Ends p e below s Qb kc ks T (mkF m pc Ls (.ref b :: st)) :=
  Ends.go (fun t => XS.ifnonnullYes X.here hx rfl rfl hd rfl ho hq) k'
theorem E.nonnullN {o : Int} (X : Stand p l e R s m args below meth c T locs cells slots) (hx : p.tables.exec = Jvm.exec) (hd : decode c.code pc = .ok (.ifnonnull o, 3)) (k' : Ends p e below s Qb kc ks T (mkF m q Ls st)) (hq : pc + 3 = q := by rfl) : Ends p e below s Qb kc ks T (mkF m pc Ls (.null :: st)) := by
  subst hq; exact Ends.go (fun t => XS.ifnonnullNo X.here hx rfl hd rfl) k'
theorem E.ldc {v : Int32} {own : String} {index : Nat} (X : Stand p l e R s m args below meth c T locs cells slots) (hx : p.tables.exec = Jvm.exec) (hZ : Z.Warmed39 s.vm) (hown : s.vm.findClass own = some m.cls) (hc : (Jvm.Cond.constant own index v).before a0 Z = true) (hd : decode c.code pc = .ok (.ldc index, 2)) (k' : Ends p e below s Qb kc ks T (mkF m q Ls (.int v :: st))) (hq : pc + 2 = q := by rfl) : Ends p e below s Qb kc ks T (mkF m pc Ls st) := by
  subst hq; exact Ends.go (fun t => X.ldcI hx hown (mvT hZ hc) rfl hd) k'
theorem E.ldcW {v : Int32} {own : String} {index : Nat} (X : Stand p l e R s m args below meth c T locs cells slots) (hx : p.tables.exec = Jvm.exec) (hZ : Z.Warmed39 s.vm) (hown : s.vm.findClass own = some m.cls) (hc : (Jvm.Cond.constant own index v).before a0 Z = true) (hd : decode c.code pc = .ok (.ldc_w index, 3)) (k' : Ends p e below s Qb kc ks T (mkF m q Ls (.int v :: st))) (hq : pc + 3 = q := by rfl) : Ends p e below s Qb kc ks T (mkF m pc Ls st) := by
  subst hq; exact Ends.go (fun t => X.ldcWI hx hown (mvT hZ hc) rfl hd) k'
theorem E.ldc2 {v : Int64} {own : String} {index : Nat} (X : Stand p l e R s m args below meth c T locs cells slots) (hx : p.tables.exec = Jvm.exec) (hZ : Z.Warmed39 s.vm) (hown : s.vm.findClass own = some m.cls) (hc : (Jvm.Cond.constantLong own index v).before a0 Z = true) (hd : decode c.code pc = .ok (.ldc2_w index, 3)) (k' : Ends p e below s Qb kc ks T (mkF m q Ls (.long v :: st))) (hq : pc + 3 = q := by rfl) : Ends p e below s Qb kc ks T (mkF m pc Ls st) := by
  subst hq; exact Ends.go (fun t => X.ldc2J hx hown (mvT hZ hc) rfl hd) k'
end OwnSteps
/-! own text: arrays by their whole contents; what a body may have done to the heap -/
section OwnHeap
variable {p : Program} {l : Launch} {e : Env} {R : Room} {s : State} {m : MethodId} {args : Array Value} {below : List Frame} {meth : Method} {c : Code} {T : State} {locs : List Loc} {cells slots : Nat} {Z : State} {a0 : Array Value} {h h' h0 : Heap} {Qb : Option Value → Heap → List Loc → Prop} {kc ks : Nat} {a b : Addr} {ty : FieldType} {vs : List Value} {v : Value} {sl i : Nat} {ws ws' : List Addr} {L L' : List Loc} {pc : Nat} {Ls : Array Slot} {st : List Value} {j : Int32}
def Ary (Z : State) (h : Heap) (a : Addr) (ty : FieldType) (vs : List Value) : Prop := ∃ c : Cell, Arr Z h a c ty ∧ c.slots = vs.toArray ∧ vs.length < 2 ^ 31
theorem Ary.lt (A : Ary Z h a ty vs) : a < h.size := by obtain ⟨c, A, -⟩ := A; exact A.lt
theorem Ary.ext (E : Ext h h') (A : Ary Z h a ty vs) : Ary Z h' a ty vs := by obtain ⟨c, A, r⟩ := A; exact ⟨c, A.ext E, r⟩
theorem Ary.other (W : Wr h h' b sl v) (A : Ary Z h a ty vs) (q : a ≠ b) : Ary Z h' a ty vs := by obtain ⟨c, A, r⟩ := A; exact ⟨c, Arr.other W A q, r⟩
theorem Ary.keep (A : Ary Z h a ty vs) (K : Keep h h' ws) (q : a ∉ ws) : Ary Z h' a ty vs := by obtain ⟨c, A, r⟩ := A; exact ⟨c, ⟨K.2.1 a c A.1 q, A.2⟩, r⟩
theorem Ary.set (A : Ary Z h a ty vs) (W : Wr h h' a i v) : Ary Z h' a ty (vs.set i v) := by
  obtain ⟨c, A, e, l⟩ := A
  refine ⟨c.setSlot i v, Arr.same W A, ?_, by rw [List.length_set]; exact l⟩
  show c.slots.setIfInBounds i v = _
  rw [e]; simp
theorem own_ofNat {i : Nat} (h : i < 2 ^ 31) : (Int32.ofNat i).toInt = (i : Int) := by
  rw [Int32.toInt_ofNat_of_lt h]
theorem own_clamp {i : Nat} (h : i < 2 ^ 31) : (Int32.ofNat i).toNatClampNeg = i ∧ ¬ (Int32.ofNat i) < 0 := by
  have q := own_ofNat h
  refine ⟨?_, ?_⟩
  · show (Int32.ofNat i).toInt.toNat = i
    omega
  · rw [Int32.lt_iff_toInt_lt]
    have : (0 : Int32).toInt = 0 := by decide
    omega
theorem Ary.new {k : ClassId} {n : Int32} {N : Nat} (A : Arr Z h a (newA k ty n) ty) (hn : n = Int32.ofNat N) (hN : N < 2 ^ 31) : Ary Z h a ty (List.replicate N (defaultValue ty)) := by
  refine ⟨_, A, ?_, by rw [List.length_replicate]; exact hN⟩
  subst hn
  show Array.replicate (Int32.ofNat N).toNatClampNeg (defaultValue ty) = _
  rw [(own_clamp hN).1]; simp
theorem own_inb {c : Cell} (e : c.slots = vs.toArray) (l : vs.length < 2 ^ 31) (hj : j = Int32.ofNat i) (hi : i < vs.length) : ¬ (j < 0 ∨ c.slots.size ≤ j.toNatClampNeg) := by
  subst hj
  have q := own_clamp (i := i) (by omega)
  rw [q.1, e]
  rintro (r | r)
  · exact q.2 r
  · simp at r; omega
theorem own_at {c : Cell} (e : c.slots = vs.toArray) (l : vs.length < 2 ^ 31) (hj : j = Int32.ofNat i) (hv : vs[i]? = some v) : ¬ (j < 0 ∨ c.slots.size ≤ j.toNatClampNeg) ∧ c.slots[j.toNatClampNeg]? = some v := by
  have hi : i < vs.length := (List.getElem?_eq_some_iff.mp hv).1
  refine ⟨own_inb e l hj hi, ?_⟩
  subst hj
  rw [(own_clamp (i := i) (by omega)).1, e]
  simpa using hv
/-- what the walk has done so far: of the elder cells only those in ws are written -/
def Ok (h0 h : Heap) (ws : List Addr) (L : List Loc) : Prop := Keep h0 h ws ∧ ∀ y ∈ L, y.base ∈ ws ∨ h0.size ≤ y.base
theorem Ok.refl (h : Heap) (ws : List Addr) : Ok h h ws [] := ⟨Keep.refl h ws, fun _ q => nomatch q⟩
theorem Ok.ext (O : Ok h0 h ws L) (E : Ext h h') : Ok h0 h' ws L := ⟨O.1.ext E, O.2⟩
theorem Ok.wr (O : Ok h0 h ws L) (W : Wr h h' a sl v) (q : a ∈ ws ∨ h0.size ≤ a) : Ok h0 h' ws (L ++ [⟨a, sl⟩]) :=
  ⟨O.1.wr W q, fun y hy => (List.mem_append.mp hy).elim (O.2 y) fun r => by cases List.mem_singleton.mp r; exact q⟩
theorem Ok.call (O : Ok h0 h ws L) (O' : Ok h h' ws' L') (q : ∀ x ∈ ws', x ∈ ws ∨ h0.size ≤ x) : Ok h0 h' ws (L ++ L') :=
  ⟨O.1.trans O'.1 q, fun y hy => (List.mem_append.mp hy).elim (O.2 y) fun r => (O'.2 y r).elim (q _) fun u => Or.inr (Nat.le_trans O.1.1 u)⟩
theorem Ok.fr (O : Ok h0 h [] L) : Fr h0.size L := fun y hy => (O.2 y hy).elim (fun q => nomatch q) id
theorem Ok.le (O : Ok h0 h ws L) : h0.size ≤ h.size := O.1.1
theorem Ends.alen (X : Stand p l e R s m args below meth c T locs cells slots) (hx : p.tables.exec = Jvm.exec) (hZ : Z.Warmed39 s.vm) (eT : T.heap = h) (A : Ary Z h a ty vs) (hd : decode c.code pc = .ok (.arraylength, 1)) {n : Int32} (hn : Int32.ofNat vs.length = n)
    (k : Ends p e below s Qb kc ks T (mkF m (pc + 1) Ls (.int n :: st))) : Ends p e below s Qb kc ks T (mkF m pc Ls (.ref a :: st)) := by
  obtain ⟨cl, A, q, -⟩ := A
  refine Ends.go (fun t => X.arraylength hx (cell := cl) (by rw [eT]; exact A.1) (State.isArrayOf_alike hZ.alike A.2.1) (g := mkF m pc Ls (.ref a :: st)) rfl (rest := st) rfl hd t) ?_
  have e1 : cl.slots.size.toInt32 = n := by rw [q, ← hn]; simp
  rw [e1]; exact k
theorem Ends.ild (X : Stand p l e R s m args below meth c T locs cells slots) (hx : p.tables.exec = Jvm.exec) (hZ : Z.Warmed39 s.vm) (eT : T.heap = h) (A : Ary Z h a .int vs) (hj : j = Int32.ofNat i) (hv : vs[i]? = some v) (hd : decode c.code pc = .ok (.iaload, 1))
    (k : Ends p e below s Qb kc ks T (mkF m (pc + 1) Ls (v :: st))) : Ends p e below s Qb kc ks T (mkF m pc Ls (.int j :: .ref a :: st)) := by
  obtain ⟨cl, A, q, q2⟩ := A
  obtain ⟨r1, r2⟩ := own_at q q2 hj hv
  exact Ends.go (fun t => X.iaload hx (by rw [eT]; exact A.1) (State.isArrayOf_alike hZ.alike A.2.1) A.2.2 r1 r2 (g := mkF m pc Ls (.int j :: .ref a :: st)) rfl rfl hd t) k
theorem Ends.cld (X : Stand p l e R s m args below meth c T locs cells slots) (hx : p.tables.exec = Jvm.exec) (hZ : Z.Warmed39 s.vm) (eT : T.heap = h) (A : Ary Z h a .char vs) (hj : j = Int32.ofNat i) (hv : vs[i]? = some v) (hd : decode c.code pc = .ok (.caload, 1))
    (k : Ends p e below s Qb kc ks T (mkF m (pc + 1) Ls (v :: st))) : Ends p e below s Qb kc ks T (mkF m pc Ls (.int j :: .ref a :: st)) := by
  obtain ⟨cl, A, q, q2⟩ := A
  obtain ⟨r1, r2⟩ := own_at q q2 hj hv
  exact Ends.go (fun t => X.caload hx (by rw [eT]; exact A.1) (State.isArrayOf_alike hZ.alike A.2.1) A.2.2 r1 r2 (g := mkF m pc Ls (.int j :: .ref a :: st)) rfl rfl hd t) k
theorem Ends.bld (X : Stand p l e R s m args below meth c T locs cells slots) (hx : p.tables.exec = Jvm.exec) (hZ : Z.Warmed39 s.vm) (eT : T.heap = h) (A : Ary Z h a .byte vs) (hj : j = Int32.ofNat i) (hv : vs[i]? = some v) (hd : decode c.code pc = .ok (.baload, 1))
    (k : Ends p e below s Qb kc ks T (mkF m (pc + 1) Ls (v :: st))) : Ends p e below s Qb kc ks T (mkF m pc Ls (.int j :: .ref a :: st)) := by
  obtain ⟨cl, A, q, q2⟩ := A
  obtain ⟨r1, r2⟩ := own_at q q2 hj hv
  exact Ends.go (fun t => X.baloadBytes hx (by rw [eT]; exact A.1) (State.isArrayOf_alike hZ.alike A.2.1) A.2.2 r1 r2 (g := mkF m pc Ls (.int j :: .ref a :: st)) rfl rfl hd t) k
theorem Ends.dld (X : Stand p l e R s m args below meth c T locs cells slots) (hx : p.tables.exec = Jvm.exec) (hZ : Z.Warmed39 s.vm) (eT : T.heap = h) (A : Ary Z h a .double vs) (hj : j = Int32.ofNat i) (hv : vs[i]? = some v) (hd : decode c.code pc = .ok (.daload, 1))
    (k : Ends p e below s Qb kc ks T (mkF m (pc + 1) Ls (v :: st))) : Ends p e below s Qb kc ks T (mkF m pc Ls (.int j :: .ref a :: st)) := by
  obtain ⟨cl, A, q, q2⟩ := A
  obtain ⟨r1, r2⟩ := own_at q q2 hj hv
  exact Ends.go (fun t => X.daload hx (by rw [eT]; exact A.1) (State.isArrayOf_alike hZ.alike A.2.1) A.2.2 r1 r2 (g := mkF m pc Ls (.int j :: .ref a :: st)) rfl rfl hd t) k
theorem Ends.ald (X : Stand p l e R s m args below meth c T locs cells slots) (hx : p.tables.exec = Jvm.exec) (hZ : Z.Warmed39 s.vm) (eT : T.heap = h) (A : Ary Z h a ty vs) (hty : ty.isReference = true) (hj : j = Int32.ofNat i) (hv : vs[i]? = some v) (hd : decode c.code pc = .ok (.aaload, 1))
    (k : Ends p e below s Qb kc ks T (mkF m (pc + 1) Ls (v :: st))) : Ends p e below s Qb kc ks T (mkF m pc Ls (.int j :: .ref a :: st)) := by
  obtain ⟨cl, A, q, q2⟩ := A
  obtain ⟨r1, r2⟩ := own_at q q2 hj hv
  exact Ends.go (fun t => X.aaload hx (by rw [eT]; exact A.1) (State.isArrayOf_alike hZ.alike A.2.1) hty A.2.2 r1 r2 (g := mkF m pc Ls (.int j :: .ref a :: st)) rfl rfl hd t) k
theorem Ends.ist (X : Stand p l e R s m args below meth c T locs cells slots) (hx : p.tables.exec = Jvm.exec) (hZ : Z.Warmed39 s.vm) (eT : T.heap = h) (A : Ary Z h a .int vs) {x : Int32} (hj : j = Int32.ofNat i) (hi : i < vs.length) (hd : decode c.code pc = .ok (.iastore, 1))
    (k : ∀ T' h', Stand p l e R s m args below meth c T' (locs ++ [⟨a, i⟩]) cells slots → T'.heap = h' → Wr h h' a i (.int x) → Ary Z h' a .int (vs.set i (.int x)) → Ends p e below s Qb kc ks T' (mkF m (pc + 1) Ls st)) : Ends p e below s Qb kc ks T (mkF m pc Ls (.int x :: .int j :: .ref a :: st)) := by
  obtain ⟨cl, A', q, q2⟩ := id A
  obtain ⟨T', h', X', e', W, st'⟩ := stI X hx hZ eT A' (j := j) (own_inb q q2 hj hi) (g := mkF m pc Ls (.int x :: .int j :: .ref a :: st)) rfl rfl hd
  have hc : j.toNatClampNeg = i := by rw [hj]; exact (own_clamp (by omega)).1
  rw [hc] at X' W
  exact Ends.go st' (k T' h' X' e' W (A.set W))
theorem Ends.cst (X : Stand p l e R s m args below meth c T locs cells slots) (hx : p.tables.exec = Jvm.exec) (hZ : Z.Warmed39 s.vm) (eT : T.heap = h) (A : Ary Z h a .char vs) {x x' : Int32} (hxx : nar .char x = x') (hj : j = Int32.ofNat i) (hi : i < vs.length) (hd : decode c.code pc = .ok (.castore, 1))
    (k : ∀ T' h', Stand p l e R s m args below meth c T' (locs ++ [⟨a, i⟩]) cells slots → T'.heap = h' → Wr h h' a i (.int x') → Ary Z h' a .char (vs.set i (.int x')) → Ends p e below s Qb kc ks T' (mkF m (pc + 1) Ls st)) : Ends p e below s Qb kc ks T (mkF m pc Ls (.int x :: .int j :: .ref a :: st)) := by
  obtain ⟨cl, A', q, q2⟩ := id A
  obtain ⟨T', h', X', e', W, st'⟩ := stC X hx hZ eT A' (j := j) (own_inb q q2 hj hi) (g := mkF m pc Ls (.int x :: .int j :: .ref a :: st)) rfl rfl hd
  have hc : j.toNatClampNeg = i := by rw [hj]; exact (own_clamp (by omega)).1
  rw [hc] at X' W
  rw [hxx] at W
  exact Ends.go st' (k T' h' X' e' W (A.set W))
theorem Ends.bst (X : Stand p l e R s m args below meth c T locs cells slots) (hx : p.tables.exec = Jvm.exec) (hZ : Z.Warmed39 s.vm) (eT : T.heap = h) (A : Ary Z h a .byte vs) {x x' : Int32} (hxx : nar .byte x = x') (hj : j = Int32.ofNat i) (hi : i < vs.length) (hd : decode c.code pc = .ok (.bastore, 1))
    (k : ∀ T' h', Stand p l e R s m args below meth c T' (locs ++ [⟨a, i⟩]) cells slots → T'.heap = h' → Wr h h' a i (.int x') → Ary Z h' a .byte (vs.set i (.int x')) → Ends p e below s Qb kc ks T' (mkF m (pc + 1) Ls st)) : Ends p e below s Qb kc ks T (mkF m pc Ls (.int x :: .int j :: .ref a :: st)) := by
  obtain ⟨cl, A', q, q2⟩ := id A
  obtain ⟨T', h', X', e', W, st'⟩ := stB X hx hZ eT A' (j := j) (own_inb q q2 hj hi) (g := mkF m pc Ls (.int x :: .int j :: .ref a :: st)) rfl rfl hd
  have hc : j.toNatClampNeg = i := by rw [hj]; exact (own_clamp (by omega)).1
  rw [hc] at X' W
  rw [hxx] at W
  exact Ends.go st' (k T' h' X' e' W (A.set W))
theorem Ends.dst (X : Stand p l e R s m args below meth c T locs cells slots) (hx : p.tables.exec = Jvm.exec) (hZ : Z.Warmed39 s.vm) (eT : T.heap = h) (A : Ary Z h a .double vs) {x : UInt64} (hj : j = Int32.ofNat i) (hi : i < vs.length) (hd : decode c.code pc = .ok (.dastore, 1))
    (k : ∀ T' h', Stand p l e R s m args below meth c T' (locs ++ [⟨a, i⟩]) cells slots → T'.heap = h' → Wr h h' a i (.double x) → Ary Z h' a .double (vs.set i (.double x)) → Ends p e below s Qb kc ks T' (mkF m (pc + 1) Ls st)) : Ends p e below s Qb kc ks T (mkF m pc Ls (.double x :: .int j :: .ref a :: st)) := by
  obtain ⟨cl, A', q, q2⟩ := id A
  obtain ⟨T', h', X', e', W, st'⟩ := stD X hx hZ eT A' (j := j) (own_inb q q2 hj hi) (g := mkF m pc Ls (.double x :: .int j :: .ref a :: st)) rfl rfl hd
  have hc : j.toNatClampNeg = i := by rw [hj]; exact (own_clamp (by omega)).1
  rw [hc] at X' W
  exact Ends.go st' (k T' h' X' e' W (A.set W))
theorem Ends.newA (X : Stand p l e R s m args below meth c T locs cells slots) (hx : p.tables.exec = Jvm.exec) (hZ : Z.Warmed39 s.vm) {aty : ArrayType} (w : (Jvm.Cond.arrayClass (newarray.typeOf aty)).before a0 Z = true) (eT : T.heap = h) (hd : decode c.code pc = .ok (.newarray aty, 2)) {n : Int32} {N : Nat} (hn : n = Int32.ofNat N) (hN : N * 8 ≤ 536870912) (hc : cells + 1 ≤ R.cells) (hl : slots + N ≤ R.slots)
    (k : ∀ T' h' b, b = h.size → Stand p l e R s m args below meth c T' locs (cells + 1) (slots + N) → T'.heap = h' → Ext h h' → Ary Z h' b (newarray.typeOf aty) (List.replicate N (defaultValue (newarray.typeOf aty))) → Ends p e below s Qb kc ks T' (mkF m (pc + 2) Ls (.ref b :: st))) : Ends p e below s Qb kc ks T (mkF m pc Ls (.int n :: st)) := by
  have q := own_clamp (i := N) (by omega)
  obtain ⟨T', h', cA, X', e', E, A, st'⟩ := newP X hx hZ w eT (g := mkF m pc Ls (.int n :: st)) rfl hd rfl (by rw [hn]; exact q.2) (cap := N) (by rw [hn, q.1]; exact Nat.le_refl _) hN hc hl
  exact Ends.go st' (k T' h' _ rfl X' e' E (Ary.new A hn (by omega)))
theorem Ends.newC (X : Stand p l e R s m args below meth c T locs cells slots) (hx : p.tables.exec = Jvm.exec) (hZ : Z.Warmed39 s.vm) {own C : String} {index n : Nat} (hown : s.vm.findClass own = some m.cls) (w : (Jvm.Cond.classLink own index C).before a0 Z = true) (wi : (Jvm.Cond.instantiable C n).before a0 Z = true) (wz : (Jvm.Cond.initialized C).before a0 Z = true) (eT : T.heap = h) (hd : decode c.code pc = .ok (.new index, 3)) (hc : cells + 1 ≤ R.cells) (hl : slots + n ≤ R.slots)
    (k : ∀ T' h' b, b = h.size → Stand p l e R s m args below meth c T' locs (cells + 1) (slots + n) → T'.heap = h' → Ext h h' → Exa Z h' b C → (∀ {O nm d : String} {ty : FieldType}, Laid Z a0 C O nm d → parseFieldDescriptor d = some ty → Fld Z h' b O nm d (defaultValue ty)) → Ends p e below s Qb kc ks T' (mkF m (pc + 3) Ls (.ref b :: st))) : Ends p e below s Qb kc ks T (mkF m pc Ls st) := by
  obtain ⟨T', h', X', e', E, A, D, -, st'⟩ := newO X hx hZ hown w wi wz eT (g := mkF m pc Ls st) rfl hd hc hl
  exact Ends.go st' (k T' h' _ rfl X' e' E A D)
end OwnHeap
section OwnHeap2
variable {p : Program} {l : Launch} {e : Env} {R : Room} {s : State} {m : MethodId} {args : Array Value} {below : List Frame} {meth : Method} {c : Code} {T : State} {locs : List Loc} {cells slots : Nat} {Z : State} {a0 : Array Value} {h h' h0 : Heap} {Qb : Option Value → Heap → List Loc → Prop} {kc ks : Nat} {a b : Addr} {ty : FieldType} {v v' old : Value} {pc index kk : Nat} {Ls : Array Slot} {st : List Value} {own R0 O n d host C : String}
theorem Ends.getF (X : Stand p l e R s m args below meth c T locs cells slots) (hx : p.tables.exec = Jvm.exec) (hZ : Z.Warmed39 s.vm) (hown : s.vm.findClass own = some m.cls) (w : (Jvm.Cond.fieldLink own index R0 n d).before a0 Z = true ∨ (Jvm.Cond.fieldLinkNest own index R0 n d host).before a0 Z = true) (via : Via Z R0 O n d) (eT : T.heap = h) (F : Fld Z h a O n d v) (hd : decode c.code pc = .ok (.getfield index, 3))
    (k : ∀ T', Stand p l e R s m args below meth c T' locs cells slots → T'.heap = h → Ends p e below s Qb kc ks T' (mkF m (pc + 3) Ls (v :: st))) : Ends p e below s Qb kc ks T (mkF m pc Ls (.ref a :: st)) := by
  obtain ⟨T', X', e', st'⟩ := Jvm.RoadKit.getF X hx hZ hown w via eT F (g := mkF m pc Ls (.ref a :: st)) rfl rfl hd
  exact Ends.go st' (k T' X' e')
theorem Ends.putF (X : Stand p l e R s m args below meth c T locs cells slots) (hx : p.tables.exec = Jvm.exec) (hZ : Z.Warmed39 s.vm) (hown : s.vm.findClass own = some m.cls) (w : (Jvm.Cond.fieldLink own index R0 n d).before a0 Z = true ∨ (Jvm.Cond.fieldLinkNest own index R0 n d host).before a0 Z = true) (via : Via Z R0 O n d) (eT : T.heap = h) (F : Fld Z h a O n d old) (E : Exa Z h a C) (L : (Jvm.Cond.lays C O n d).before a0 Z = true ∨ ((Jvm.Cond.laysFinal C O n d).before a0 Z = true ∧ own = O ∧ meth.name = "<init>")) (wi : (Jvm.Cond.instantiable C kk).before a0 Z = true) (hty : parseFieldDescriptor d = some ty) (hn : narrow ty v = v) (hf : fits ty v = true) (hd : decode c.code pc = .ok (.putfield index, 3))
    (k : ∀ T' h', Stand p l e R s m args below meth c T' (locs ++ [⟨a, Jvm.RoadKit.slotOf Z O n d⟩]) cells slots → T'.heap = h' → Wr h h' a (Jvm.RoadKit.slotOf Z O n d) v → Fld Z h' a O n d v → Ends p e below s Qb kc ks T' (mkF m (pc + 3) Ls st)) : Ends p e below s Qb kc ks T (mkF m pc Ls (v :: .ref a :: st)) := by
  obtain ⟨T', h', X', e', W, st'⟩ := Jvm.RoadKit.putF X hx hZ hown w via eT F E L wi hty hn hf (g := mkF m pc Ls (v :: .ref a :: st)) rfl rfl hd
  exact Ends.go st' (k T' h' X' e' W (F.same W))
theorem Ends.putN (X : Stand p l e R s m args below meth c T locs cells slots) (hx : p.tables.exec = Jvm.exec) (hZ : Z.Warmed39 s.vm) (hown : s.vm.findClass own = some m.cls) (w : (Jvm.Cond.fieldLink own index R0 n d).before a0 Z = true) (via : Via Z R0 O n d) (eT : T.heap = h) (F : Fld Z h a O n d old) (E : Exa Z h a C) (L : (Jvm.Cond.lays C O n d).before a0 Z = true ∨ ((Jvm.Cond.laysFinal C O n d).before a0 Z = true ∧ own = O ∧ meth.name = "<init>")) (wi : (Jvm.Cond.instantiable C kk).before a0 Z = true) (hty : parseFieldDescriptor d = some ty) (hn : narrow ty v = v') (hf : fits ty v' = true) (hd : decode c.code pc = .ok (.putfield index, 3))
    (k : ∀ T' h', Stand p l e R s m args below meth c T' (locs ++ [⟨a, Jvm.RoadKit.slotOf Z O n d⟩]) cells slots → T'.heap = h' → Wr h h' a (Jvm.RoadKit.slotOf Z O n d) v' → Fld Z h' a O n d v' → Ends p e below s Qb kc ks T' (mkF m (pc + 3) Ls st)) : Ends p e below s Qb kc ks T (mkF m pc Ls (v :: .ref a :: st)) := by
  obtain ⟨T', h', X', e', W, st'⟩ := Jvm.RoadKit.putFN X hx hZ hown w via eT F E L wi hty hn hf (g := mkF m pc Ls (v :: .ref a :: st)) rfl rfl hd
  exact Ends.go st' (k T' h' X' e' W (F.same W))
theorem Ends.initO (X : Stand p l e R s m args below meth c T locs cells slots) (hx : p.tables.exec = Jvm.exec) (hZ : Z.Warmed39 s.vm) (hown : s.vm.findClass own = some m.cls) (w1 : (Jvm.Cond.methodLink own index Lib.objectInit).before a0 Z = true) (w2 : (Jvm.Cond.instanceMethod Lib.objectInit).before a0 Z = true) (w3 : (Jvm.Cond.code Lib.objectInit ⟨#[0xb1]⟩ 1 none).before a0 Z = true) (eT : T.heap = h) (hsz : Ls.size = c.maxLocals) (hd : decode c.code pc = .ok (.invokespecial index, 3)) (hf : 1 ≤ R.frames) {W : Nat} (hW : (st.map fun v => v.category).sum ≤ W) (hl : W + 12 ≤ R.locals)
    (k : ∀ T', Stand p l e R s m args below meth c T' locs cells slots → T'.heap = h → Ends p e below s Qb kc ks T' (mkF m (pc + 3) Ls st)) : Ends p e below s Qb kc ks T (mkF m pc Ls (.ref a :: st)) := by
  obtain ⟨T', X', e', st'⟩ := Jvm.RoadKit.initO X hx hZ hown w1 w2 w3 eT (g := mkF m pc Ls (.ref a :: st)) rfl hsz rfl hd hf (W := W) (by show 2 * 0 + _ ≤ _; omega) hl
  exact Ends.go st' (k T' X' e')
end OwnHeap2
def own_in (x : Int32) : Int32 := if x < (0 : Int32) then 0 else if x < (5 : Int32) then 1 else 0
def own_c (x y : Int32) : Int32 := lcmpW x.toInt64 y.toInt64
theorem own_b53 (x : Int32) : B53 x.toInt64 := by
  have h := rng32 x
  have h2 := c_i2l x
  exact ⟨by omega, by omega⟩
theorem own_dc (x y : Int32) (o : CmpOp) : cmpValue (FP.dcmp (FP.i2d x) (FP.i2d y)) o = own_c x y := by
  rw [i2d_w, i2d_w]; exact dcmpV_w (own_b53 x) (own_b53 y) o
theorem own_c_lt (x y : Int32) : own_c x y < 0 ↔ x.toInt < y.toInt := by
  unfold own_c; rw [lw_lt, Int64.lt_iff_toInt_lt, c_i2l, c_i2l]
theorem own_c_gt (x y : Int32) : 0 < own_c x y ↔ y.toInt < x.toInt := by
  unfold own_c; rw [lw_gt, Int64.lt_iff_toInt_lt, c_i2l, c_i2l]
theorem own_c_eq (x y : Int32) : own_c x y = 0 ↔ x.toInt = y.toInt := by
  unfold own_c; rw [lw_eq, ← Int64.toInt_inj, c_i2l, c_i2l]
def HS (Z : State) (h : Heap) (o kA vA : Addr) (K : Int32 → Int32) (is : List Int32) : Prop :=
  Exa Z h o "com/example/hourline/hourline/engine/MinHeap" ∧ Fld Z h o "com/example/hourline/hourline/engine/MinHeap" "keys" "[D" (.ref kA) ∧ Fld Z h o "com/example/hourline/hourline/engine/MinHeap" "values" "[I" (.ref vA) ∧
  Fld Z h o "com/example/hourline/hourline/engine/MinHeap" "size" "I" (.int (Int32.ofNat is.length)) ∧ (∃ rk, Ary Z h kA .double ((is.map fun i => Value.double (FP.i2d (K i))) ++ rk) ∧ is.length + rk.length = 64) ∧ (∃ rv, Ary Z h vA .int ((is.map Value.int) ++ rv) ∧ is.length + rv.length = 64) ∧ kA ≠ vA ∧ o ≠ kA ∧ o ≠ vA
def own_ord (K : Int32 → Int32) : List Int32 → Prop
  | [a, b] => (K a).toInt ≤ (K b).toInt
  | [a, b, c] => (K a).toInt ≤ (K b).toInt ∧ (K a).toInt ≤ (K c).toInt
  | [a, b, c, d] => (K a).toInt ≤ (K b).toInt ∧ (K a).toInt ≤ (K c).toInt ∧ (K b).toInt ≤ (K d).toInt
  | [a, b, c, d, e] => (K a).toInt ≤ (K b).toInt ∧ (K a).toInt ≤ (K c).toInt ∧ (K b).toInt ≤ (K d).toInt ∧ (K b).toInt ≤ (K e).toInt
  | _ => True
def own_K (a b c d e : Int32) (i : Int32) : Int32 := if i = 0 then a else if i = 1 then b else if i = 2 then c else if i = 3 then d else e
theorem own_l1 {l : List Int32} (h : l.length = 0 + 1) : ∃ a, l = [a] := by match l, h with | [a], _ => exact ⟨a, rfl⟩
theorem own_l2 {l : List Int32} (h : l.length = 0 + 1 + 1) : ∃ a b, l = [a, b] := by match l, h with | [a, b], _ => exact ⟨a, b, rfl⟩
theorem own_l3 {l : List Int32} (h : l.length = 0 + 1 + 1 + 1) : ∃ a b c, l = [a, b, c] := by match l, h with | [a, b, c], _ => exact ⟨a, b, c, rfl⟩
theorem own_l4 {l : List Int32} (h : l.length = 0 + 1 + 1 + 1 + 1) : ∃ a b c d, l = [a, b, c, d] := by match l, h with | [a, b, c, d], _ => exact ⟨a, b, c, d, rfl⟩
theorem own_l5 {l : List Int32} (h : l.length = 0 + 1 + 1 + 1 + 1 + 1) : ∃ a b c d e, l = [a, b, c, d, e] := by match l, h with | [a, b, c, d, e], _ => exact ⟨a, b, c, d, e, rfl⟩
theorem own_mem {p : Int32} (h : p ∈ [(4 : Int32), 3, 2, 1, 0]) : p = 4 ∨ p = 3 ∨ p = 2 ∨ p = 1 ∨ p = 0 := by simpa using h
theorem own_in1 {p : Int32} (h : p = 4 ∨ p = 3 ∨ p = 2 ∨ p = 1 ∨ p = 0) : ¬ own_in p = 0 := by rcases h with rfl | rfl | rfl | rfl | rfl <;> decide
theorem own_idx {p : Int32} (h : p = 4 ∨ p = 3 ∨ p = 2 ∨ p = 1 ∨ p = 0) : p = Int32.ofNat p.toNatClampNeg := by rcases h with rfl | rfl | rfl | rfl | rfl <;> decide
theorem own_kat {p a b c d e : Int32} (h : p = 4 ∨ p = 3 ∨ p = 2 ∨ p = 1 ∨ p = 0) : [Value.double (FP.i2d a), .double (FP.i2d b), .double (FP.i2d c), .double (FP.i2d d), .double (FP.i2d e)][p.toNatClampNeg]? = some (.double (FP.i2d (own_K a b c d e p))) := by rcases h with rfl | rfl | rfl | rfl | rfl <;> rfl
def own_or (l : List Int32) : Int32 := l.foldr (fun p acc => ((1 : Int32) <<< (p &&& 31)) ||| acc) 0
theorem own_or_perm {l l' : List Int32} (h : l.Perm l') : own_or l = own_or l' := by
  induction h with
  | nil => rfl
  | cons x _ ih => show _ ||| own_or _ = _ ||| own_or _; rw [ih]
  | swap x y l => show _ ||| (_ ||| own_or l) = _ ||| (_ ||| own_or l); rw [← Int32.or_assoc, ← Int32.or_assoc, Int32.or_comm (_ <<< _) (_ <<< _)]
  | trans _ _ i1 i2 => exact i1.trans i2
theorem own_seen {p q r s t : Int32} (h : [p, q, r, s, t].Perm [4, 3, 2, 1, 0]) : ((((((1 : Int32) <<< (p &&& 31)) ||| ((1 : Int32) <<< (q &&& 31))) ||| ((1 : Int32) <<< (r &&& 31))) ||| ((1 : Int32) <<< (s &&& 31))) ||| ((1 : Int32) <<< (t &&& 31))) = (31 : Int32) := by
  have e := own_or_perm h
  have e2 : own_or [4, 3, 2, 1, 0] = 31 := by decide
  rw [e2] at e
  refine Eq.trans ?_ e
  show _ = (_ ||| (_ ||| (_ ||| (_ ||| (_ ||| (0 : Int32))))))
  rw [Int32.or_zero]
  simp only [Int32.or_assoc]
theorem pn_0 : plainName "com/example/hourline/hourline/engine/MinHeapPopPinLaw" = true := by first | (simp [plainName, overriddenIn]; done) | decide +kernel
theorem pn_1 : plainName "com/example/hourline/hourline/engine/MinHeap" = true := by first | (simp [plainName, overriddenIn]; done) | decide +kernel
theorem pd_0 : parseMethodDescriptor "()V" = some ⟨[], none⟩ := by decide +kernel
theorem pd_1 : parseMethodDescriptor "(DI)V" = some ⟨[.double, .int], none⟩ := by decide +kernel
theorem pd_2 : parseMethodDescriptor "()I" = some ⟨[], some .int⟩ := by decide +kernel
theorem pd_3 : parseMethodDescriptor "(I)Z" = some ⟨[.int], some .boolean⟩ := by decide +kernel
theorem d1_0 : decode prog_36_method_1_code 0 = .ok (.aload_n 0, 1) := by decide +kernel
theorem d1_1 : decode prog_36_method_1_code 1 = .ok (.invokespecial 1, 3) := by decide +kernel
theorem d1_4 : decode prog_36_method_1_code 4 = .ok (.aload_n 0, 1) := by decide +kernel
theorem d1_5 : decode prog_36_method_1_code 5 = .ok (.bipush 64, 2) := by decide +kernel
theorem d1_7 : decode prog_36_method_1_code 7 = .ok (.newarray .double, 2) := by decide +kernel
theorem d1_9 : decode prog_36_method_1_code 9 = .ok (.putfield 7, 3) := by decide +kernel
theorem d1_12 : decode prog_36_method_1_code 12 = .ok (.aload_n 0, 1) := by decide +kernel
theorem d1_13 : decode prog_36_method_1_code 13 = .ok (.bipush 64, 2) := by decide +kernel
theorem d1_15 : decode prog_36_method_1_code 15 = .ok (.newarray .int, 2) := by decide +kernel
theorem d1_17 : decode prog_36_method_1_code 17 = .ok (.putfield 13, 3) := by decide +kernel
theorem d1_20 : decode prog_36_method_1_code 20 = .ok (.return_, 1) := by decide +kernel
theorem d3_0 : decode prog_36_method_3_code 0 = .ok (.aload_n 0, 1) := by decide +kernel
theorem d3_1 : decode prog_36_method_3_code 1 = .ok (.getfield 17, 3) := by decide +kernel
theorem d3_4 : decode prog_36_method_3_code 4 = .ok (.aload_n 0, 1) := by decide +kernel
theorem d3_5 : decode prog_36_method_3_code 5 = .ok (.getfield 7, 3) := by decide +kernel
theorem d3_8 : decode prog_36_method_3_code 8 = .ok (.arraylength, 1) := by decide +kernel
theorem d3_9 : decode prog_36_method_3_code 9 = .ok (.if_icmp .ne 37, 3) := by decide +kernel
theorem d3_46 : decode prog_36_method_3_code 46 = .ok (.aload_n 0, 1) := by decide +kernel
theorem d3_47 : decode prog_36_method_3_code 47 = .ok (.dup, 1) := by decide +kernel
theorem d3_48 : decode prog_36_method_3_code 48 = .ok (.getfield 17, 3) := by decide +kernel
theorem d3_51 : decode prog_36_method_3_code 51 = .ok (.dup_x1, 1) := by decide +kernel
theorem d3_52 : decode prog_36_method_3_code 52 = .ok (.iconst 1, 1) := by decide +kernel
theorem d3_53 : decode prog_36_method_3_code 53 = .ok (.iadd, 1) := by decide +kernel
theorem d3_54 : decode prog_36_method_3_code 54 = .ok (.putfield 17, 3) := by decide +kernel
theorem d3_57 : decode prog_36_method_3_code 57 = .ok (.istore 4, 2) := by decide +kernel
theorem d3_59 : decode prog_36_method_3_code 59 = .ok (.iload 4, 2) := by decide +kernel
theorem d3_61 : decode prog_36_method_3_code 61 = .ok (.ifCond .le 66, 3) := by decide +kernel
theorem d3_64 : decode prog_36_method_3_code 64 = .ok (.aload_n 0, 1) := by decide +kernel
theorem d3_65 : decode prog_36_method_3_code 65 = .ok (.getfield 7, 3) := by decide +kernel
theorem d3_68 : decode prog_36_method_3_code 68 = .ok (.iload 4, 2) := by decide +kernel
theorem d3_70 : decode prog_36_method_3_code 70 = .ok (.iconst 1, 1) := by decide +kernel
theorem d3_71 : decode prog_36_method_3_code 71 = .ok (.isub, 1) := by decide +kernel
theorem d3_72 : decode prog_36_method_3_code 72 = .ok (.iconst 2, 1) := by decide +kernel
theorem d3_73 : decode prog_36_method_3_code 73 = .ok (.idiv, 1) := by decide +kernel
theorem d3_74 : decode prog_36_method_3_code 74 = .ok (.daload, 1) := by decide +kernel
theorem d3_75 : decode prog_36_method_3_code 75 = .ok (.dload_n 1, 1) := by decide +kernel
theorem d3_76 : decode prog_36_method_3_code 76 = .ok (.dcmp .l, 1) := by decide +kernel
theorem d3_77 : decode prog_36_method_3_code 77 = .ok (.ifCond .le 50, 3) := by decide +kernel
theorem d3_80 : decode prog_36_method_3_code 80 = .ok (.aload_n 0, 1) := by decide +kernel
theorem d3_81 : decode prog_36_method_3_code 81 = .ok (.getfield 7, 3) := by decide +kernel
theorem d3_84 : decode prog_36_method_3_code 84 = .ok (.iload 4, 2) := by decide +kernel
theorem d3_86 : decode prog_36_method_3_code 86 = .ok (.aload_n 0, 1) := by decide +kernel
theorem d3_87 : decode prog_36_method_3_code 87 = .ok (.getfield 7, 3) := by decide +kernel
theorem d3_90 : decode prog_36_method_3_code 90 = .ok (.iload 4, 2) := by decide +kernel
theorem d3_92 : decode prog_36_method_3_code 92 = .ok (.iconst 1, 1) := by decide +kernel
theorem d3_93 : decode prog_36_method_3_code 93 = .ok (.isub, 1) := by decide +kernel
theorem d3_94 : decode prog_36_method_3_code 94 = .ok (.iconst 2, 1) := by decide +kernel
theorem d3_95 : decode prog_36_method_3_code 95 = .ok (.idiv, 1) := by decide +kernel
theorem d3_96 : decode prog_36_method_3_code 96 = .ok (.daload, 1) := by decide +kernel
theorem d3_97 : decode prog_36_method_3_code 97 = .ok (.dastore, 1) := by decide +kernel
theorem d3_98 : decode prog_36_method_3_code 98 = .ok (.aload_n 0, 1) := by decide +kernel
theorem d3_99 : decode prog_36_method_3_code 99 = .ok (.getfield 13, 3) := by decide +kernel
theorem d3_102 : decode prog_36_method_3_code 102 = .ok (.iload 4, 2) := by decide +kernel
theorem d3_104 : decode prog_36_method_3_code 104 = .ok (.aload_n 0, 1) := by decide +kernel
theorem d3_105 : decode prog_36_method_3_code 105 = .ok (.getfield 13, 3) := by decide +kernel
theorem d3_108 : decode prog_36_method_3_code 108 = .ok (.iload 4, 2) := by decide +kernel
theorem d3_110 : decode prog_36_method_3_code 110 = .ok (.iconst 1, 1) := by decide +kernel
theorem d3_111 : decode prog_36_method_3_code 111 = .ok (.isub, 1) := by decide +kernel
theorem d3_112 : decode prog_36_method_3_code 112 = .ok (.iconst 2, 1) := by decide +kernel
theorem d3_113 : decode prog_36_method_3_code 113 = .ok (.idiv, 1) := by decide +kernel
theorem d3_114 : decode prog_36_method_3_code 114 = .ok (.iaload, 1) := by decide +kernel
theorem d3_115 : decode prog_36_method_3_code 115 = .ok (.iastore, 1) := by decide +kernel
theorem d3_116 : decode prog_36_method_3_code 116 = .ok (.iload 4, 2) := by decide +kernel
theorem d3_118 : decode prog_36_method_3_code 118 = .ok (.iconst 1, 1) := by decide +kernel
theorem d3_119 : decode prog_36_method_3_code 119 = .ok (.isub, 1) := by decide +kernel
theorem d3_120 : decode prog_36_method_3_code 120 = .ok (.iconst 2, 1) := by decide +kernel
theorem d3_121 : decode prog_36_method_3_code 121 = .ok (.idiv, 1) := by decide +kernel
theorem d3_122 : decode prog_36_method_3_code 122 = .ok (.istore 4, 2) := by decide +kernel
theorem d3_124 : decode prog_36_method_3_code 124 = .ok (.goto (-65), 3) := by decide +kernel
theorem d3_127 : decode prog_36_method_3_code 127 = .ok (.aload_n 0, 1) := by decide +kernel
theorem d3_128 : decode prog_36_method_3_code 128 = .ok (.getfield 7, 3) := by decide +kernel
theorem d3_131 : decode prog_36_method_3_code 131 = .ok (.iload 4, 2) := by decide +kernel
theorem d3_133 : decode prog_36_method_3_code 133 = .ok (.dload_n 1, 1) := by decide +kernel
theorem d3_134 : decode prog_36_method_3_code 134 = .ok (.dastore, 1) := by decide +kernel
theorem d3_135 : decode prog_36_method_3_code 135 = .ok (.aload_n 0, 1) := by decide +kernel
theorem d3_136 : decode prog_36_method_3_code 136 = .ok (.getfield 13, 3) := by decide +kernel
theorem d3_139 : decode prog_36_method_3_code 139 = .ok (.iload 4, 2) := by decide +kernel
theorem d3_141 : decode prog_36_method_3_code 141 = .ok (.iload_n 3, 1) := by decide +kernel
theorem d3_142 : decode prog_36_method_3_code 142 = .ok (.iastore, 1) := by decide +kernel
theorem d3_143 : decode prog_36_method_3_code 143 = .ok (.return_, 1) := by decide +kernel
theorem d4_0 : decode prog_36_method_5_code 0 = .ok (.aload_n 0, 1) := by decide +kernel
theorem d4_1 : decode prog_36_method_5_code 1 = .ok (.getfield 13, 3) := by decide +kernel
theorem d4_4 : decode prog_36_method_5_code 4 = .ok (.iconst 0, 1) := by decide +kernel
theorem d4_5 : decode prog_36_method_5_code 5 = .ok (.iaload, 1) := by decide +kernel
theorem d4_6 : decode prog_36_method_5_code 6 = .ok (.istore_n 1, 1) := by decide +kernel
theorem d4_7 : decode prog_36_method_5_code 7 = .ok (.aload_n 0, 1) := by decide +kernel
theorem d4_8 : decode prog_36_method_5_code 8 = .ok (.getfield 7, 3) := by decide +kernel
theorem d4_11 : decode prog_36_method_5_code 11 = .ok (.aload_n 0, 1) := by decide +kernel
theorem d4_12 : decode prog_36_method_5_code 12 = .ok (.dup, 1) := by decide +kernel
theorem d4_13 : decode prog_36_method_5_code 13 = .ok (.getfield 17, 3) := by decide +kernel
theorem d4_16 : decode prog_36_method_5_code 16 = .ok (.iconst 1, 1) := by decide +kernel
theorem d4_17 : decode prog_36_method_5_code 17 = .ok (.isub, 1) := by decide +kernel
theorem d4_18 : decode prog_36_method_5_code 18 = .ok (.dup_x1, 1) := by decide +kernel
theorem d4_19 : decode prog_36_method_5_code 19 = .ok (.putfield 17, 3) := by decide +kernel
theorem d4_22 : decode prog_36_method_5_code 22 = .ok (.daload, 1) := by decide +kernel
theorem d4_23 : decode prog_36_method_5_code 23 = .ok (.dstore_n 2, 1) := by decide +kernel
theorem d4_24 : decode prog_36_method_5_code 24 = .ok (.aload_n 0, 1) := by decide +kernel
theorem d4_25 : decode prog_36_method_5_code 25 = .ok (.getfield 13, 3) := by decide +kernel
theorem d4_28 : decode prog_36_method_5_code 28 = .ok (.aload_n 0, 1) := by decide +kernel
theorem d4_29 : decode prog_36_method_5_code 29 = .ok (.getfield 17, 3) := by decide +kernel
theorem d4_32 : decode prog_36_method_5_code 32 = .ok (.iaload, 1) := by decide +kernel
theorem d4_33 : decode prog_36_method_5_code 33 = .ok (.istore 4, 2) := by decide +kernel
theorem d4_35 : decode prog_36_method_5_code 35 = .ok (.iconst 0, 1) := by decide +kernel
theorem d4_36 : decode prog_36_method_5_code 36 = .ok (.istore 5, 2) := by decide +kernel
theorem d4_38 : decode prog_36_method_5_code 38 = .ok (.iconst 2, 1) := by decide +kernel
theorem d4_39 : decode prog_36_method_5_code 39 = .ok (.iload 5, 2) := by decide +kernel
theorem d4_41 : decode prog_36_method_5_code 41 = .ok (.imul, 1) := by decide +kernel
theorem d4_42 : decode prog_36_method_5_code 42 = .ok (.iconst 1, 1) := by decide +kernel
theorem d4_43 : decode prog_36_method_5_code 43 = .ok (.iadd, 1) := by decide +kernel
theorem d4_44 : decode prog_36_method_5_code 44 = .ok (.aload_n 0, 1) := by decide +kernel
theorem d4_45 : decode prog_36_method_5_code 45 = .ok (.getfield 17, 3) := by decide +kernel
theorem d4_48 : decode prog_36_method_5_code 48 = .ok (.if_icmp .ge 95, 3) := by decide +kernel
theorem d4_51 : decode prog_36_method_5_code 51 = .ok (.iconst 2, 1) := by decide +kernel
theorem d4_52 : decode prog_36_method_5_code 52 = .ok (.iload 5, 2) := by decide +kernel
theorem d4_54 : decode prog_36_method_5_code 54 = .ok (.imul, 1) := by decide +kernel
theorem d4_55 : decode prog_36_method_5_code 55 = .ok (.iconst 1, 1) := by decide +kernel
theorem d4_56 : decode prog_36_method_5_code 56 = .ok (.iadd, 1) := by decide +kernel
theorem d4_57 : decode prog_36_method_5_code 57 = .ok (.istore 6, 2) := by decide +kernel
theorem d4_59 : decode prog_36_method_5_code 59 = .ok (.iload 6, 2) := by decide +kernel
theorem d4_61 : decode prog_36_method_5_code 61 = .ok (.iconst 1, 1) := by decide +kernel
theorem d4_62 : decode prog_36_method_5_code 62 = .ok (.iadd, 1) := by decide +kernel
theorem d4_63 : decode prog_36_method_5_code 63 = .ok (.aload_n 0, 1) := by decide +kernel
theorem d4_64 : decode prog_36_method_5_code 64 = .ok (.getfield 17, 3) := by decide +kernel
theorem d4_67 : decode prog_36_method_5_code 67 = .ok (.if_icmp .ge 26, 3) := by decide +kernel
theorem d4_70 : decode prog_36_method_5_code 70 = .ok (.aload_n 0, 1) := by decide +kernel
theorem d4_71 : decode prog_36_method_5_code 71 = .ok (.getfield 7, 3) := by decide +kernel
theorem d4_74 : decode prog_36_method_5_code 74 = .ok (.iload 6, 2) := by decide +kernel
theorem d4_76 : decode prog_36_method_5_code 76 = .ok (.iconst 1, 1) := by decide +kernel
theorem d4_77 : decode prog_36_method_5_code 77 = .ok (.iadd, 1) := by decide +kernel
theorem d4_78 : decode prog_36_method_5_code 78 = .ok (.daload, 1) := by decide +kernel
theorem d4_79 : decode prog_36_method_5_code 79 = .ok (.aload_n 0, 1) := by decide +kernel
theorem d4_80 : decode prog_36_method_5_code 80 = .ok (.getfield 7, 3) := by decide +kernel
theorem d4_83 : decode prog_36_method_5_code 83 = .ok (.iload 6, 2) := by decide +kernel
theorem d4_85 : decode prog_36_method_5_code 85 = .ok (.daload, 1) := by decide +kernel
theorem d4_86 : decode prog_36_method_5_code 86 = .ok (.dcmp .g, 1) := by decide +kernel
theorem d4_87 : decode prog_36_method_5_code 87 = .ok (.ifCond .ge 6, 3) := by decide +kernel
theorem d4_90 : decode prog_36_method_5_code 90 = .ok (.iinc 6 1, 3) := by decide +kernel
theorem d4_93 : decode prog_36_method_5_code 93 = .ok (.aload_n 0, 1) := by decide +kernel
theorem d4_94 : decode prog_36_method_5_code 94 = .ok (.getfield 7, 3) := by decide +kernel
theorem d4_97 : decode prog_36_method_5_code 97 = .ok (.iload 6, 2) := by decide +kernel
theorem d4_99 : decode prog_36_method_5_code 99 = .ok (.daload, 1) := by decide +kernel
theorem d4_100 : decode prog_36_method_5_code 100 = .ok (.dload_n 2, 1) := by decide +kernel
theorem d4_101 : decode prog_36_method_5_code 101 = .ok (.dcmp .l, 1) := by decide +kernel
theorem d4_102 : decode prog_36_method_5_code 102 = .ok (.ifCond .lt 6, 3) := by decide +kernel
theorem d4_105 : decode prog_36_method_5_code 105 = .ok (.goto 38, 3) := by decide +kernel
theorem d4_108 : decode prog_36_method_5_code 108 = .ok (.aload_n 0, 1) := by decide +kernel
theorem d4_109 : decode prog_36_method_5_code 109 = .ok (.getfield 7, 3) := by decide +kernel
theorem d4_112 : decode prog_36_method_5_code 112 = .ok (.iload 5, 2) := by decide +kernel
theorem d4_114 : decode prog_36_method_5_code 114 = .ok (.aload_n 0, 1) := by decide +kernel
theorem d4_115 : decode prog_36_method_5_code 115 = .ok (.getfield 7, 3) := by decide +kernel
theorem d4_118 : decode prog_36_method_5_code 118 = .ok (.iload 6, 2) := by decide +kernel
theorem d4_120 : decode prog_36_method_5_code 120 = .ok (.daload, 1) := by decide +kernel
theorem d4_121 : decode prog_36_method_5_code 121 = .ok (.dastore, 1) := by decide +kernel
theorem d4_122 : decode prog_36_method_5_code 122 = .ok (.aload_n 0, 1) := by decide +kernel
theorem d4_123 : decode prog_36_method_5_code 123 = .ok (.getfield 13, 3) := by decide +kernel
theorem d4_126 : decode prog_36_method_5_code 126 = .ok (.iload 5, 2) := by decide +kernel
theorem d4_128 : decode prog_36_method_5_code 128 = .ok (.aload_n 0, 1) := by decide +kernel
theorem d4_129 : decode prog_36_method_5_code 129 = .ok (.getfield 13, 3) := by decide +kernel
theorem d4_132 : decode prog_36_method_5_code 132 = .ok (.iload 6, 2) := by decide +kernel
theorem d4_134 : decode prog_36_method_5_code 134 = .ok (.iaload, 1) := by decide +kernel
theorem d4_135 : decode prog_36_method_5_code 135 = .ok (.iastore, 1) := by decide +kernel
theorem d4_136 : decode prog_36_method_5_code 136 = .ok (.iload 6, 2) := by decide +kernel
theorem d4_138 : decode prog_36_method_5_code 138 = .ok (.istore 5, 2) := by decide +kernel
theorem d4_140 : decode prog_36_method_5_code 140 = .ok (.goto (-102), 3) := by decide +kernel
theorem d4_143 : decode prog_36_method_5_code 143 = .ok (.aload_n 0, 1) := by decide +kernel
theorem d4_144 : decode prog_36_method_5_code 144 = .ok (.getfield 7, 3) := by decide +kernel
theorem d4_147 : decode prog_36_method_5_code 147 = .ok (.iload 5, 2) := by decide +kernel
theorem d4_149 : decode prog_36_method_5_code 149 = .ok (.dload_n 2, 1) := by decide +kernel
theorem d4_150 : decode prog_36_method_5_code 150 = .ok (.dastore, 1) := by decide +kernel
theorem d4_151 : decode prog_36_method_5_code 151 = .ok (.aload_n 0, 1) := by decide +kernel
theorem d4_152 : decode prog_36_method_5_code 152 = .ok (.getfield 13, 3) := by decide +kernel
theorem d4_155 : decode prog_36_method_5_code 155 = .ok (.iload 5, 2) := by decide +kernel
theorem d4_157 : decode prog_36_method_5_code 157 = .ok (.iload 4, 2) := by decide +kernel
theorem d4_159 : decode prog_36_method_5_code 159 = .ok (.iastore, 1) := by decide +kernel
theorem d4_160 : decode prog_36_method_5_code 160 = .ok (.iload_n 1, 1) := by decide +kernel
theorem d4_161 : decode prog_36_method_5_code 161 = .ok (.ireturn, 1) := by decide +kernel
theorem d5_0 : decode method_3_code 0 = .ok (.iload_n 0, 1) := by decide +kernel
theorem d5_1 : decode method_3_code 1 = .ok (.ifCond .lt 12, 3) := by decide +kernel
theorem d5_4 : decode method_3_code 4 = .ok (.iload_n 0, 1) := by decide +kernel
theorem d5_5 : decode method_3_code 5 = .ok (.iconst 5, 1) := by decide +kernel
theorem d5_6 : decode method_3_code 6 = .ok (.if_icmp .ge 7, 3) := by decide +kernel
theorem d5_9 : decode method_3_code 9 = .ok (.iconst 1, 1) := by decide +kernel
theorem d5_10 : decode method_3_code 10 = .ok (.goto 4, 3) := by decide +kernel
theorem d5_13 : decode method_3_code 13 = .ok (.iconst 0, 1) := by decide +kernel
theorem d5_14 : decode method_3_code 14 = .ok (.ireturn, 1) := by decide +kernel
theorem ef_5 (m : MethodId) (x0 : Int32) : entryFrame m #[(.int x0)] 1 = mkF m 0 #[.val (.int x0)] [] := by first | (simp [entryFrame, mkF, argsToLocals, Value.category]; done) | rfl
set_option maxRecDepth 65536 in
set_option maxHeartbeats 40000000 in
theorem rm5 (l : Launch) (Z : State) (a0 : Array Value) (hw : ∀ d ∈ tables_1, d.before a0 Z = true) (xv : Int32) (h0 : Heap) :
    Con l (⟨"com/example/hourline/hourline/engine/MinHeapPopPinLaw", "in", "(I)Z"⟩ : MethodName) method_3_code 1 (some .boolean) [] ({ frames := 0, cells := 0, slots := 0, locals := 0 } : Room) #[(.int xv)] Z h0 (fun v h L => v = some (.int (own_in xv)) ∧ h = h0 ∧ L = []) := by
  refine Con.of (plainFor_of_name pn_0) ?_
  intro p e s m below meth c s₁ hx hZ hby hml hown hnm hret hlk X0 e0
  refine Ends.cast (ef_5 m xv) ?_
  show Ends p e below s _ _ _ s₁ (mkF m 0 #[.val (.int xv)] [])
  refine E.iloadN (q := 1) X0 hx (hb hby d5_0) rfl ?_
  by_cases hc1_0 : xv < (0 : Int32)
  · refine E.ifY (q := 13) X0 hx (hb hby d5_1) (XT.i0_lt_t hc1_0) ?_
    refine E.iconst (q := 14) (v := (0 : Int32)) X0 hx (hb hby d5_13) rfl ?_
    exact Ends.retS X0 hx hlk hret (by simp) rfl (hb hby d5_14) (by decide) (by decide) ⟨by unfold own_in; rw [if_pos hc1_0], e0, rfl⟩
  · refine E.ifN (q := 4) X0 hx (hb hby d5_1) (XT.i0_lt_f hc1_0) ?_
    refine E.iloadN (q := 5) X0 hx (hb hby d5_4) rfl ?_
    refine E.iconst (q := 6) (v := (5 : Int32)) X0 hx (hb hby d5_5) rfl ?_
    by_cases hc6_1 : xv < (5 : Int32)
    · refine E.icmpN (q := 9) X0 hx (hb hby d5_6) (XT.ii_ge_f hc6_1) ?_
      refine E.iconst (q := 10) (v := (1 : Int32)) X0 hx (hb hby d5_9) rfl ?_
      refine E.goto (q := 14) X0 hx (hb hby d5_10) ?_
      exact Ends.retS X0 hx hlk hret (by simp) rfl (hb hby d5_14) (by decide) (by decide) ⟨by unfold own_in; rw [if_neg hc1_0, if_pos hc6_1], e0, rfl⟩
    · refine E.icmpY (q := 13) X0 hx (hb hby d5_6) (XT.ii_ge_t hc6_1) ?_
      refine E.iconst (q := 14) (v := (0 : Int32)) X0 hx (hb hby d5_13) rfl ?_
      exact Ends.retS X0 hx hlk hret (by simp) rfl (hb hby d5_14) (by decide) (by decide) ⟨by unfold own_in; rw [if_neg hc1_0, if_neg hc6_1], e0, rfl⟩
theorem ef_1 (m : MethodId) (x0 : Addr) : entryFrame m #[(.ref x0)] 1 = mkF m 0 #[.val (.ref x0)] [] := by first | (simp [entryFrame, mkF, argsToLocals, Value.category]; done) | rfl
set_option maxRecDepth 65536 in
set_option maxHeartbeats 40000000 in
theorem rm1 (l : Launch) (Z : State) (a0 : Array Value) (hw : ∀ d ∈ tables_1, d.before a0 Z = true) (oa : Addr) (h0 : Heap) (E0 : Exa Z h0 oa "com/example/hourline/hourline/engine/MinHeap") (F_k : Fld Z h0 oa "com/example/hourline/hourline/engine/MinHeap" "keys" "[D" .null) (F_v : Fld Z h0 oa "com/example/hourline/hourline/engine/MinHeap" "values" "[I" .null) (F_s : Fld Z h0 oa "com/example/hourline/hourline/engine/MinHeap" "size" "I" (.int (0 : Int32))) (K : Int32 → Int32) :
    Con l (⟨"com/example/hourline/hourline/engine/MinHeap", "<init>", "()V"⟩ : MethodName) prog_36_method_1_code 1 none [] ({ frames := 1, cells := 2, slots := 128, locals := 24 } : Room) #[(.ref oa)] Z h0 (fun v h L => v = none ∧ ∃ kA vA, h0.size ≤ kA ∧ h0.size ≤ vA ∧ Ok h0 h [oa] L ∧ HS Z h oa kA vA K []) := by
  refine Con.of (plainFor_of_name pn_1) ?_
  intro p e s m below meth c s₁ hx hZ hby hml hown hnm hret hlk X0 e0
  refine Ends.cast (ef_1 m oa) ?_
  show Ends p e below s _ _ _ s₁ (mkF m 0 #[.val (.ref oa)] [])
  have O0 := Ok.refl h0 [oa]
  refine E.aloadN (q := 1) X0 hx (hb hby d1_0) rfl rfl ?_
  refine Ends.initO X0 hx hZ hown (hw _ (List.mem_of_getElem? (i := 7) rfl)) (hw _ (List.mem_of_getElem? (i := 8) rfl)) (hw _ (List.mem_of_getElem? (i := 9) rfl)) e0 (by rw [hml]; rfl) (hb hby d1_1) (by decide) (W := 0) (Nat.le_of_eq rfl) (by decide) ?_
  intro T1 X1 e1
  refine E.aloadN (q := 5) X1 hx (hb hby d1_4) rfl rfl ?_
  refine E.bipush (q := 7) (v := (64 : Int32)) X1 hx (hb hby d1_5) rfl ?_
  refine Ends.newA X1 hx hZ (hw _ (List.mem_of_getElem? (i := 0) rfl)) e1 (hb hby d1_7) (N := 64) rfl (by decide) (by decide) (by decide) ?_
  intro T2 h2 b2 g2 X2 e2 E2 A2
  have ge_b2 : h0.size ≤ b2 := Nat.le_trans O0.le (Nat.le_of_eq g2.symm)
  have O2 := O0.ext E2
  have V2 : Ary Z h2 b2 .double [(.double (0 : UInt64)), (.double (0 : UInt64)), (.double (0 : UInt64)), (.double (0 : UInt64)), (.double (0 : UInt64)), (.double (0 : UInt64)), (.double (0 : UInt64)), (.double (0 : UInt64)), (.double (0 : UInt64)), (.double (0 : UInt64)), (.double (0 : UInt64)), (.double (0 : UInt64)), (.double (0 : UInt64)), (.double (0 : UInt64)), (.double (0 : UInt64)), (.double (0 : UInt64)), (.double (0 : UInt64)), (.double (0 : UInt64)), (.double (0 : UInt64)), (.double (0 : UInt64)), (.double (0 : UInt64)), (.double (0 : UInt64)), (.double (0 : UInt64)), (.double (0 : UInt64)), (.double (0 : UInt64)), (.double (0 : UInt64)), (.double (0 : UInt64)), (.double (0 : UInt64)), (.double (0 : UInt64)), (.double (0 : UInt64)), (.double (0 : UInt64)), (.double (0 : UInt64)), (.double (0 : UInt64)), (.double (0 : UInt64)), (.double (0 : UInt64)), (.double (0 : UInt64)), (.double (0 : UInt64)), (.double (0 : UInt64)), (.double (0 : UInt64)), (.double (0 : UInt64)), (.double (0 : UInt64)), (.double (0 : UInt64)), (.double (0 : UInt64)), (.double (0 : UInt64)), (.double (0 : UInt64)), (.double (0 : UInt64)), (.double (0 : UInt64)), (.double (0 : UInt64)), (.double (0 : UInt64)), (.double (0 : UInt64)), (.double (0 : UInt64)), (.double (0 : UInt64)), (.double (0 : UInt64)), (.double (0 : UInt64)), (.double (0 : UInt64)), (.double (0 : UInt64)), (.double (0 : UInt64)), (.double (0 : UInt64)), (.double (0 : UInt64)), (.double (0 : UInt64)), (.double (0 : UInt64)), (.double (0 : UInt64)), (.double (0 : UInt64)), (.double (0 : UInt64))] := A2
  have f3 := F_k.ext E2
  have f4 := E0.ext E2
  refine Ends.putF X2 hx hZ hown (host := "") (Or.inl (hw _ (List.mem_of_getElem? (i := 10) rfl))) Via.refl e2 f3 f4 (Or.inl (hw _ (List.mem_of_getElem? (i := 11) rfl))) (hw _ (List.mem_of_getElem? (i := 2) rfl)) (ty := (.array .double)) (by decide) rfl rfl (hb hby d1_9) ?_
  intro T5 h5 X5 e5 W5 Fw5
  have O5 := O2.wr W5 (Or.inl (List.mem_of_getElem? (i := 0) rfl))
  refine E.aloadN (q := 13) X5 hx (hb hby d1_12) rfl rfl ?_
  refine E.bipush (q := 15) (v := (64 : Int32)) X5 hx (hb hby d1_13) rfl ?_
  refine Ends.newA X5 hx hZ (hw _ (List.mem_of_getElem? (i := 12) rfl)) e5 (hb hby d1_15) (N := 64) rfl (by decide) (by decide) (by decide) ?_
  intro T6 h6 b6 g6 X6 e6 E6 A6
  have ge_b6 : h0.size ≤ b6 := Nat.le_trans O5.le (Nat.le_of_eq g6.symm)
  have O6 := O5.ext E6
  have V6 : Ary Z h6 b6 .int [(.int (0 : Int32)), (.int (0 : Int32)), (.int (0 : Int32)), (.int (0 : Int32)), (.int (0 : Int32)), (.int (0 : Int32)), (.int (0 : Int32)), (.int (0 : Int32)), (.int (0 : Int32)), (.int (0 : Int32)), (.int (0 : Int32)), (.int (0 : Int32)), (.int (0 : Int32)), (.int (0 : Int32)), (.int (0 : Int32)), (.int (0 : Int32)), (.int (0 : Int32)), (.int (0 : Int32)), (.int (0 : Int32)), (.int (0 : Int32)), (.int (0 : Int32)), (.int (0 : Int32)), (.int (0 : Int32)), (.int (0 : Int32)), (.int (0 : Int32)), (.int (0 : Int32)), (.int (0 : Int32)), (.int (0 : Int32)), (.int (0 : Int32)), (.int (0 : Int32)), (.int (0 : Int32)), (.int (0 : Int32)), (.int (0 : Int32)), (.int (0 : Int32)), (.int (0 : Int32)), (.int (0 : Int32)), (.int (0 : Int32)), (.int (0 : Int32)), (.int (0 : Int32)), (.int (0 : Int32)), (.int (0 : Int32)), (.int (0 : Int32)), (.int (0 : Int32)), (.int (0 : Int32)), (.int (0 : Int32)), (.int (0 : Int32)), (.int (0 : Int32)), (.int (0 : Int32)), (.int (0 : Int32)), (.int (0 : Int32)), (.int (0 : Int32)), (.int (0 : Int32)), (.int (0 : Int32)), (.int (0 : Int32)), (.int (0 : Int32)), (.int (0 : Int32)), (.int (0 : Int32)), (.int (0 : Int32)), (.int (0 : Int32)), (.int (0 : Int32)), (.int (0 : Int32)), (.int (0 : Int32)), (.int (0 : Int32)), (.int (0 : Int32))] := A6
  have f7 := F_v.ext E2
  have f8 := f7.other W5 (Or.inr (slot_ne (Or.inl (hw _ (List.mem_of_getElem? (i := 14) rfl))) (Or.inl (hw _ (List.mem_of_getElem? (i := 11) rfl))) (by decide) (t := (.array .int)) (t' := (.array .double)) (by decide) (by decide)))
  have f9 := f8.ext E6
  have f10 := f4.wr W5
  have f11 := f10.ext E6
  refine Ends.putF X6 hx hZ hown (host := "") (Or.inl (hw _ (List.mem_of_getElem? (i := 13) rfl))) Via.refl e6 f9 f11 (Or.inl (hw _ (List.mem_of_getElem? (i := 14) rfl))) (hw _ (List.mem_of_getElem? (i := 2) rfl)) (ty := (.array .int)) (by decide) rfl rfl (hb hby d1_17) ?_
  intro T12 h12 X12 e12 W12 Fw12
  have O12 := O6.wr W12 (Or.inl (List.mem_of_getElem? (i := 0) rfl))
  have f13 := f11.wr W12
  have f14 := Fw5.ext E6
  have f15 := f14.other W12 (Or.inr (slot_ne (Or.inl (hw _ (List.mem_of_getElem? (i := 11) rfl))) (Or.inl (hw _ (List.mem_of_getElem? (i := 14) rfl))) (by decide) (t := (.array .double)) (t' := (.array .int)) (by decide) (by decide)))
  have f16 := F_s.ext E2
  have f17 := f16.other W5 (Or.inr (slot_ne (Or.inl (hw _ (List.mem_of_getElem? (i := 21) rfl))) (Or.inl (hw _ (List.mem_of_getElem? (i := 11) rfl))) (by decide) (t := .int) (t' := (.array .double)) (by decide) (by decide)))
  have f18 := f17.ext E6
  have f19 := f18.other W12 (Or.inr (slot_ne (Or.inl (hw _ (List.mem_of_getElem? (i := 21) rfl))) (Or.inl (hw _ (List.mem_of_getElem? (i := 14) rfl))) (by decide) (t := .int) (t' := (.array .int)) (by decide) (by decide)))
  have f20 := V2.other W5 (Ne.symm (Nat.ne_of_lt (Nat.lt_of_lt_of_eq E0.lt g2.symm)))
  have f21 := f20.ext E6
  have f22 := f21.other W12 (Ne.symm (Nat.ne_of_lt (Nat.lt_of_lt_of_eq E0.lt g2.symm)))
  have f23 := V6.other W12 (Ne.symm (Nat.ne_of_lt (Nat.lt_of_lt_of_eq f10.lt g6.symm)))
  subst e12
  have hne : b2 ≠ b6 := (Nat.ne_of_lt (Nat.lt_of_lt_of_eq f20.lt g6.symm))
  have hoa : oa ≠ b2 := (Nat.ne_of_lt (Nat.lt_of_lt_of_eq E0.lt g2.symm))
  have hob : oa ≠ b6 := (Nat.ne_of_lt (Nat.lt_of_lt_of_eq f10.lt g6.symm))
  exact Ends.retV X12 hx hlk hret (hb hby d1_20) (by decide) (by decide) ⟨rfl, b2, b6, ge_b2, ge_b6, O12, f13, f15, Fw12, f19, ⟨_, f22, rfl⟩, ⟨_, f23, rfl⟩, hne, hoa, hob⟩
theorem efP0 (m : MethodId) (x0 : Addr) (x1 : UInt64) (x2 : Int32) : entryFrame m #[(.ref x0), (.double x1), (.int x2)] 5 = mkF m 0 #[.val (.ref x0), .val (.double x1), .second, .val (.int x2), .unset] [] := by first | (simp [entryFrame, mkF, argsToLocals, Value.category]; done) | rfl
set_option maxRecDepth 65536 in
set_option maxHeartbeats 40000000 in
theorem rmP0 (l : Launch) (Z : State) (a0 : Array Value) (hw : ∀ d ∈ tables_1, d.before a0 Z = true) (oa : Addr) (K : Int32 → Int32) (nw : Int32) (kA vA : Addr) (h0 : Heap) (H0 : HS Z h0 oa kA vA K []) (Q0 : own_ord K []) :
    Con l (⟨"com/example/hourline/hourline/engine/MinHeap", "push", "(DI)V"⟩ : MethodName) prog_36_method_3_code 5 none [] ({ frames := 0, cells := 0, slots := 0, locals := 0 } : Room) #[(.ref oa), (.double (FP.i2d (K nw))), (.int nw)] Z h0 (fun v h L => v = none ∧ Ok h0 h [oa, kA, vA] L ∧ ∃ is, HS Z h oa kA vA K is ∧ is.Perm (nw :: []) ∧ own_ord K is) := by
  refine Con.of (plainFor_of_name pn_1) ?_
  intro p e s m below meth c s₁ hx hZ hby hml hown hnm hret hlk X0 e0
  refine Ends.cast (efP0 m oa (FP.i2d (K nw)) nw) ?_
  show Ends p e below s _ _ _ s₁ (mkF m 0 #[.val (.ref oa), .val (.double (FP.i2d (K nw))), .second, .val (.int nw), .unset] [])
  have O0 := Ok.refl h0 [oa, kA, vA]
  obtain ⟨E0, F_k, F_v, F_s, ⟨rk, A_k, hrk⟩, ⟨rv, A_v, hrv⟩, hne, hoa, hob⟩ := H0
  obtain ⟨uk, rk', rfl⟩ : ∃ u r, rk = u :: r := by cases rk with | nil => exact absurd hrk (by simp) | cons u r => exact ⟨u, r, rfl⟩
  obtain ⟨uv, rv', rfl⟩ : ∃ u r, rv = u :: r := by cases rv with | nil => exact absurd hrv (by simp) | cons u r => exact ⟨u, r, rfl⟩
  have A_k' : Ary Z h0 kA .double (uk :: rk') := A_k
  have A_v' : Ary Z h0 vA .int (uv :: rv') := A_v
  have F_s' : Fld Z h0 oa "com/example/hourline/hourline/engine/MinHeap" "size" "I" (.int (0 : Int32)) := F_s
  refine E.aloadN (q := 1) X0 hx (hb hby d3_0) rfl rfl ?_
  refine Ends.getF X0 hx hZ hown (host := "") (Or.inl (hw _ (List.mem_of_getElem? (i := 20) rfl))) Via.refl e0 F_s' (hb hby d3_1) ?_
  intro T24 X24 e24
  refine E.aloadN (q := 5) X24 hx (hb hby d3_4) rfl rfl ?_
  refine Ends.getF X24 hx hZ hown (host := "") (Or.inl (hw _ (List.mem_of_getElem? (i := 10) rfl))) Via.refl e24 F_k (hb hby d3_5) ?_
  intro T25 X25 e25
  refine Ends.alen X25 hx hZ e25 A_k' (hb hby d3_8) (n := (64 : Int32)) (by rw [show List.length (uk :: rk') = 64 from by simp only [List.length_cons, List.length_nil, List.length_map] at *; omega]; rfl) ?_
  refine E.icmpY (q := 46) X25 hx (hb hby d3_9) (XT.ii_ne_t (by decide)) ?_
  refine E.aloadN (q := 47) X25 hx (hb hby d3_46) rfl rfl ?_
  refine E.dup (q := 48) X25 hx (hb hby d3_47) rfl ?_
  refine Ends.getF X25 hx hZ hown (host := "") (Or.inl (hw _ (List.mem_of_getElem? (i := 20) rfl))) Via.refl e25 F_s' (hb hby d3_48) ?_
  intro T26 X26 e26
  refine E.dupX1 (q := 52) X26 hx (hb hby d3_51) rfl rfl ?_
  refine E.iconst (q := 53) (v := (1 : Int32)) X26 hx (hb hby d3_52) rfl ?_
  refine E.iadd (q := 54) X26 hx (hb hby d3_53) ?_
  rw [show ((0 : Int32) + (1 : Int32)) = (1 : Int32) from by decide]
  refine Ends.putF X26 hx hZ hown (host := "") (Or.inl (hw _ (List.mem_of_getElem? (i := 20) rfl))) Via.refl e26 F_s' E0 (Or.inl (hw _ (List.mem_of_getElem? (i := 21) rfl))) (hw _ (List.mem_of_getElem? (i := 2) rfl)) (ty := .int) (by decide) rfl rfl (hb hby d3_54) ?_
  intro T27 h27 X27 e27 W27 Fw27
  have O27 := O0.wr W27 (Or.inl (List.mem_of_getElem? (i := 0) rfl))
  refine E.istore (q := 59) (l' := #[.val (.ref oa), .val (.double (FP.i2d (K nw))), .second, .val (.int nw), .val (.int (0 : Int32))]) X27 hx (hb hby d3_57) rfl ?_
  refine E.iload (q := 61) X27 hx (hb hby d3_59) rfl ?_
  refine E.ifY (q := 127) X27 hx (hb hby d3_61) (XT.i0_le_t (by decide)) ?_
  refine E.aloadN (q := 128) X27 hx (hb hby d3_127) rfl rfl ?_
  have f28 := F_k.other W27 (Or.inr (slot_ne (Or.inl (hw _ (List.mem_of_getElem? (i := 11) rfl))) (Or.inl (hw _ (List.mem_of_getElem? (i := 21) rfl))) (by decide) (t := (.array .double)) (t' := .int) (by decide) (by decide)))
  refine Ends.getF X27 hx hZ hown (host := "") (Or.inl (hw _ (List.mem_of_getElem? (i := 10) rfl))) Via.refl e27 f28 (hb hby d3_128) ?_
  intro T29 X29 e29
  refine E.iload (q := 133) X29 hx (hb hby d3_131) rfl ?_
  refine E.dloadN (q := 134) X29 hx (hb hby d3_133) rfl ?_
  have f30 := A_k'.other W27 (Ne.symm hoa)
  refine Ends.dst X29 hx hZ e29 f30 (i := 0) rfl (by simp only [List.length_cons]; omega) (hb hby d3_134) ?_
  intro T31 h31 X31 e31 W31 V31
  have V31 : Ary Z h31 kA .double ((.double (FP.i2d (K nw))) :: rk') := V31
  have O31 := O27.wr W31 (Or.inl (List.mem_of_getElem? (i := 1) rfl))
  refine E.aloadN (q := 136) X31 hx (hb hby d3_135) rfl rfl ?_
  have f32 := F_v.other W27 (Or.inr (slot_ne (Or.inl (hw _ (List.mem_of_getElem? (i := 14) rfl))) (Or.inl (hw _ (List.mem_of_getElem? (i := 21) rfl))) (by decide) (t := (.array .int)) (t' := .int) (by decide) (by decide)))
  have f33 := f32.other W31 (Or.inl hoa)
  refine Ends.getF X31 hx hZ hown (host := "") (Or.inl (hw _ (List.mem_of_getElem? (i := 13) rfl))) Via.refl e31 f33 (hb hby d3_136) ?_
  intro T34 X34 e34
  refine E.iload (q := 141) X34 hx (hb hby d3_139) rfl ?_
  refine E.iloadN (q := 142) X34 hx (hb hby d3_141) rfl ?_
  have f35 := A_v'.other W27 (Ne.symm hob)
  have f36 := f35.other W31 (Ne.symm hne)
  refine Ends.ist X34 hx hZ e34 f36 (i := 0) rfl (by simp only [List.length_cons]; omega) (hb hby d3_142) ?_
  intro T37 h37 X37 e37 W37 V37
  have V37 : Ary Z h37 vA .int ((.int nw) :: rv') := V37
  have O37 := O31.wr W37 (Or.inl (List.mem_of_getElem? (i := 2) rfl))
  have f38 := E0.wr W27
  have f39 := f38.wr W31
  have f40 := f39.wr W37
  have f41 := f28.other W31 (Or.inl hoa)
  have f42 := f41.other W37 (Or.inl hob)
  have f43 := f33.other W37 (Or.inl hob)
  have f44 := Fw27.other W31 (Or.inl hoa)
  have f45 := f44.other W37 (Or.inl hob)
  have f46 := V31.other W37 hne
  subst e37
  exact Ends.retV X37 hx hlk hret (hb hby d3_143) (by decide) (by decide) ⟨rfl, O37, [nw], ⟨f40, f42, f43, f45, ⟨_, f46, by simp only [List.length_cons, List.length_nil] at *; omega⟩, ⟨_, V37, by simp only [List.length_cons, List.length_nil] at *; omega⟩, hne, hoa, hob⟩, (List.perm_iff_count.mpr fun z => by simp only [List.count_cons, List.count_nil] <;> ac_rfl), by simp only [own_ord] at * <;> omega⟩
theorem efP1 (m : MethodId) (x0 : Addr) (x1 : UInt64) (x2 : Int32) : entryFrame m #[(.ref x0), (.double x1), (.int x2)] 5 = mkF m 0 #[.val (.ref x0), .val (.double x1), .second, .val (.int x2), .unset] [] := by first | (simp [entryFrame, mkF, argsToLocals, Value.category]; done) | rfl
set_option maxRecDepth 65536 in
set_option maxHeartbeats 40000000 in
theorem rmP1 (l : Launch) (Z : State) (a0 : Array Value) (hw : ∀ d ∈ tables_1, d.before a0 Z = true) (oa : Addr) (K : Int32 → Int32) (nw : Int32) (kA vA : Addr) (i0 : Int32) (h0 : Heap) (H0 : HS Z h0 oa kA vA K [i0]) (Q0 : own_ord K [i0]) :
    Con l (⟨"com/example/hourline/hourline/engine/MinHeap", "push", "(DI)V"⟩ : MethodName) prog_36_method_3_code 5 none [] ({ frames := 0, cells := 0, slots := 0, locals := 0 } : Room) #[(.ref oa), (.double (FP.i2d (K nw))), (.int nw)] Z h0 (fun v h L => v = none ∧ Ok h0 h [oa, kA, vA] L ∧ ∃ is, HS Z h oa kA vA K is ∧ is.Perm (nw :: [i0]) ∧ own_ord K is) := by
  refine Con.of (plainFor_of_name pn_1) ?_
  intro p e s m below meth c s₁ hx hZ hby hml hown hnm hret hlk X0 e0
  refine Ends.cast (efP1 m oa (FP.i2d (K nw)) nw) ?_
  show Ends p e below s _ _ _ s₁ (mkF m 0 #[.val (.ref oa), .val (.double (FP.i2d (K nw))), .second, .val (.int nw), .unset] [])
  have O0 := Ok.refl h0 [oa, kA, vA]
  obtain ⟨E0, F_k, F_v, F_s, ⟨rk, A_k, hrk⟩, ⟨rv, A_v, hrv⟩, hne, hoa, hob⟩ := H0
  obtain ⟨uk, rk', rfl⟩ : ∃ u r, rk = u :: r := by cases rk with | nil => exact absurd hrk (by simp) | cons u r => exact ⟨u, r, rfl⟩
  obtain ⟨uv, rv', rfl⟩ : ∃ u r, rv = u :: r := by cases rv with | nil => exact absurd hrv (by simp) | cons u r => exact ⟨u, r, rfl⟩
  have A_k' : Ary Z h0 kA .double ((.double (FP.i2d (K i0))) :: uk :: rk') := A_k
  have A_v' : Ary Z h0 vA .int ((.int i0) :: uv :: rv') := A_v
  have F_s' : Fld Z h0 oa "com/example/hourline/hourline/engine/MinHeap" "size" "I" (.int (1 : Int32)) := F_s
  refine E.aloadN (q := 1) X0 hx (hb hby d3_0) rfl rfl ?_
  refine Ends.getF X0 hx hZ hown (host := "") (Or.inl (hw _ (List.mem_of_getElem? (i := 20) rfl))) Via.refl e0 F_s' (hb hby d3_1) ?_
  intro T47 X47 e47
  refine E.aloadN (q := 5) X47 hx (hb hby d3_4) rfl rfl ?_
  refine Ends.getF X47 hx hZ hown (host := "") (Or.inl (hw _ (List.mem_of_getElem? (i := 10) rfl))) Via.refl e47 F_k (hb hby d3_5) ?_
  intro T48 X48 e48
  refine Ends.alen X48 hx hZ e48 A_k' (hb hby d3_8) (n := (64 : Int32)) (by rw [show List.length ((.double (FP.i2d (K i0))) :: uk :: rk') = 64 from by simp only [List.length_cons, List.length_nil, List.length_map] at *; omega]; rfl) ?_
  refine E.icmpY (q := 46) X48 hx (hb hby d3_9) (XT.ii_ne_t (by decide)) ?_
  refine E.aloadN (q := 47) X48 hx (hb hby d3_46) rfl rfl ?_
  refine E.dup (q := 48) X48 hx (hb hby d3_47) rfl ?_
  refine Ends.getF X48 hx hZ hown (host := "") (Or.inl (hw _ (List.mem_of_getElem? (i := 20) rfl))) Via.refl e48 F_s' (hb hby d3_48) ?_
  intro T49 X49 e49
  refine E.dupX1 (q := 52) X49 hx (hb hby d3_51) rfl rfl ?_
  refine E.iconst (q := 53) (v := (1 : Int32)) X49 hx (hb hby d3_52) rfl ?_
  refine E.iadd (q := 54) X49 hx (hb hby d3_53) ?_
  rw [show ((1 : Int32) + (1 : Int32)) = (2 : Int32) from by decide]
  refine Ends.putF X49 hx hZ hown (host := "") (Or.inl (hw _ (List.mem_of_getElem? (i := 20) rfl))) Via.refl e49 F_s' E0 (Or.inl (hw _ (List.mem_of_getElem? (i := 21) rfl))) (hw _ (List.mem_of_getElem? (i := 2) rfl)) (ty := .int) (by decide) rfl rfl (hb hby d3_54) ?_
  intro T50 h50 X50 e50 W50 Fw50
  have O50 := O0.wr W50 (Or.inl (List.mem_of_getElem? (i := 0) rfl))
  refine E.istore (q := 59) (l' := #[.val (.ref oa), .val (.double (FP.i2d (K nw))), .second, .val (.int nw), .val (.int (1 : Int32))]) X50 hx (hb hby d3_57) rfl ?_
  refine E.iload (q := 61) X50 hx (hb hby d3_59) rfl ?_
  refine E.ifN (q := 64) X50 hx (hb hby d3_61) (XT.i0_le_f (by decide)) ?_
  refine E.aloadN (q := 65) X50 hx (hb hby d3_64) rfl rfl ?_
  have f51 := F_k.other W50 (Or.inr (slot_ne (Or.inl (hw _ (List.mem_of_getElem? (i := 11) rfl))) (Or.inl (hw _ (List.mem_of_getElem? (i := 21) rfl))) (by decide) (t := (.array .double)) (t' := .int) (by decide) (by decide)))
  refine Ends.getF X50 hx hZ hown (host := "") (Or.inl (hw _ (List.mem_of_getElem? (i := 10) rfl))) Via.refl e50 f51 (hb hby d3_65) ?_
  intro T52 X52 e52
  refine E.iload (q := 70) X52 hx (hb hby d3_68) rfl ?_
  refine E.iconst (q := 71) (v := (1 : Int32)) X52 hx (hb hby d3_70) rfl ?_
  refine E.isub (q := 72) X52 hx (hb hby d3_71) ?_
  rw [show ((1 : Int32) - (1 : Int32)) = (0 : Int32) from by decide]
  refine E.iconst (q := 73) (v := (2 : Int32)) X52 hx (hb hby d3_72) rfl ?_
  refine E.idiv (q := 74) X52 hx (hb hby d3_73) (by decide) ?_
  rw [show ((0 : Int32) / (2 : Int32)) = (0 : Int32) from by decide]
  have f53 := A_k'.other W50 (Ne.symm hoa)
  refine Ends.dld X52 hx hZ e52 f53 (i := 0) rfl rfl (hb hby d3_74) ?_
  refine E.dloadN (q := 76) X52 hx (hb hby d3_75) rfl ?_
  refine E.dcmp (q := 77) X52 hx (hb hby d3_76) ?_
  rw [own_dc]
  by_cases hq1 : (K nw).toInt < (K i0).toInt
  · refine E.ifN (q := 80) X52 hx (hb hby d3_77) (XT.i0_le_f ((own_c_gt _ _).mpr hq1)) ?_
    refine E.aloadN (q := 81) X52 hx (hb hby d3_80) rfl rfl ?_
    refine Ends.getF X52 hx hZ hown (host := "") (Or.inl (hw _ (List.mem_of_getElem? (i := 10) rfl))) Via.refl e52 f51 (hb hby d3_81) ?_
    intro T54 X54 e54
    refine E.iload (q := 86) X54 hx (hb hby d3_84) rfl ?_
    refine E.aloadN (q := 87) X54 hx (hb hby d3_86) rfl rfl ?_
    refine Ends.getF X54 hx hZ hown (host := "") (Or.inl (hw _ (List.mem_of_getElem? (i := 10) rfl))) Via.refl e54 f51 (hb hby d3_87) ?_
    intro T55 X55 e55
    refine E.iload (q := 92) X55 hx (hb hby d3_90) rfl ?_
    refine E.iconst (q := 93) (v := (1 : Int32)) X55 hx (hb hby d3_92) rfl ?_
    refine E.isub (q := 94) X55 hx (hb hby d3_93) ?_
    rw [show ((1 : Int32) - (1 : Int32)) = (0 : Int32) from by decide]
    refine E.iconst (q := 95) (v := (2 : Int32)) X55 hx (hb hby d3_94) rfl ?_
    refine E.idiv (q := 96) X55 hx (hb hby d3_95) (by decide) ?_
    rw [show ((0 : Int32) / (2 : Int32)) = (0 : Int32) from by decide]
    refine Ends.dld X55 hx hZ e55 f53 (i := 0) rfl rfl (hb hby d3_96) ?_
    refine Ends.dst X55 hx hZ e55 f53 (i := 1) rfl (by simp only [List.length_cons]; omega) (hb hby d3_97) ?_
    intro T56 h56 X56 e56 W56 V56
    have V56 : Ary Z h56 kA .double ((.double (FP.i2d (K i0))) :: (.double (FP.i2d (K i0))) :: rk') := V56
    have O56 := O50.wr W56 (Or.inl (List.mem_of_getElem? (i := 1) rfl))
    refine E.aloadN (q := 99) X56 hx (hb hby d3_98) rfl rfl ?_
    have f57 := F_v.other W50 (Or.inr (slot_ne (Or.inl (hw _ (List.mem_of_getElem? (i := 14) rfl))) (Or.inl (hw _ (List.mem_of_getElem? (i := 21) rfl))) (by decide) (t := (.array .int)) (t' := .int) (by decide) (by decide)))
    have f58 := f57.other W56 (Or.inl hoa)
    refine Ends.getF X56 hx hZ hown (host := "") (Or.inl (hw _ (List.mem_of_getElem? (i := 13) rfl))) Via.refl e56 f58 (hb hby d3_99) ?_
    intro T59 X59 e59
    refine E.iload (q := 104) X59 hx (hb hby d3_102) rfl ?_
    refine E.aloadN (q := 105) X59 hx (hb hby d3_104) rfl rfl ?_
    refine Ends.getF X59 hx hZ hown (host := "") (Or.inl (hw _ (List.mem_of_getElem? (i := 13) rfl))) Via.refl e59 f58 (hb hby d3_105) ?_
    intro T60 X60 e60
    refine E.iload (q := 110) X60 hx (hb hby d3_108) rfl ?_
    refine E.iconst (q := 111) (v := (1 : Int32)) X60 hx (hb hby d3_110) rfl ?_
    refine E.isub (q := 112) X60 hx (hb hby d3_111) ?_
    rw [show ((1 : Int32) - (1 : Int32)) = (0 : Int32) from by decide]
    refine E.iconst (q := 113) (v := (2 : Int32)) X60 hx (hb hby d3_112) rfl ?_
    refine E.idiv (q := 114) X60 hx (hb hby d3_113) (by decide) ?_
    rw [show ((0 : Int32) / (2 : Int32)) = (0 : Int32) from by decide]
    have f61 := A_v'.other W50 (Ne.symm hob)
    have f62 := f61.other W56 (Ne.symm hne)
    refine Ends.ild X60 hx hZ e60 f62 (i := 0) rfl rfl (hb hby d3_114) ?_
    refine Ends.ist X60 hx hZ e60 f62 (i := 1) rfl (by simp only [List.length_cons]; omega) (hb hby d3_115) ?_
    intro T63 h63 X63 e63 W63 V63
    have V63 : Ary Z h63 vA .int ((.int i0) :: (.int i0) :: rv') := V63
    have O63 := O56.wr W63 (Or.inl (List.mem_of_getElem? (i := 2) rfl))
    refine E.iload (q := 118) X63 hx (hb hby d3_116) rfl ?_
    refine E.iconst (q := 119) (v := (1 : Int32)) X63 hx (hb hby d3_118) rfl ?_
    refine E.isub (q := 120) X63 hx (hb hby d3_119) ?_
    rw [show ((1 : Int32) - (1 : Int32)) = (0 : Int32) from by decide]
    refine E.iconst (q := 121) (v := (2 : Int32)) X63 hx (hb hby d3_120) rfl ?_
    refine E.idiv (q := 122) X63 hx (hb hby d3_121) (by decide) ?_
    rw [show ((0 : Int32) / (2 : Int32)) = (0 : Int32) from by decide]
    refine E.istore (q := 124) (l' := #[.val (.ref oa), .val (.double (FP.i2d (K nw))), .second, .val (.int nw), .val (.int (0 : Int32))]) X63 hx (hb hby d3_122) rfl ?_
    refine E.goto (q := 59) X63 hx (hb hby d3_124) ?_
    refine E.iload (q := 61) X63 hx (hb hby d3_59) rfl ?_
    refine E.ifY (q := 127) X63 hx (hb hby d3_61) (XT.i0_le_t (by decide)) ?_
    refine E.aloadN (q := 128) X63 hx (hb hby d3_127) rfl rfl ?_
    have f64 := f51.other W56 (Or.inl hoa)
    have f65 := f64.other W63 (Or.inl hob)
    refine Ends.getF X63 hx hZ hown (host := "") (Or.inl (hw _ (List.mem_of_getElem? (i := 10) rfl))) Via.refl e63 f65 (hb hby d3_128) ?_
    intro T66 X66 e66
    refine E.iload (q := 133) X66 hx (hb hby d3_131) rfl ?_
    refine E.dloadN (q := 134) X66 hx (hb hby d3_133) rfl ?_
    have f67 := V56.other W63 hne
    refine Ends.dst X66 hx hZ e66 f67 (i := 0) rfl (by simp only [List.length_cons]; omega) (hb hby d3_134) ?_
    intro T68 h68 X68 e68 W68 V68
    have V68 : Ary Z h68 kA .double ((.double (FP.i2d (K nw))) :: (.double (FP.i2d (K i0))) :: rk') := V68
    have O68 := O63.wr W68 (Or.inl (List.mem_of_getElem? (i := 1) rfl))
    refine E.aloadN (q := 136) X68 hx (hb hby d3_135) rfl rfl ?_
    have f69 := f58.other W63 (Or.inl hob)
    have f70 := f69.other W68 (Or.inl hoa)
    refine Ends.getF X68 hx hZ hown (host := "") (Or.inl (hw _ (List.mem_of_getElem? (i := 13) rfl))) Via.refl e68 f70 (hb hby d3_136) ?_
    intro T71 X71 e71
    refine E.iload (q := 141) X71 hx (hb hby d3_139) rfl ?_
    refine E.iloadN (q := 142) X71 hx (hb hby d3_141) rfl ?_
    have f72 := V63.other W68 (Ne.symm hne)
    refine Ends.ist X71 hx hZ e71 f72 (i := 0) rfl (by simp only [List.length_cons]; omega) (hb hby d3_142) ?_
    intro T73 h73 X73 e73 W73 V73
    have V73 : Ary Z h73 vA .int ((.int nw) :: (.int i0) :: rv') := V73
    have O73 := O68.wr W73 (Or.inl (List.mem_of_getElem? (i := 2) rfl))
    have f74 := E0.wr W50
    have f75 := f74.wr W56
    have f76 := f75.wr W63
    have f77 := f76.wr W68
    have f78 := f77.wr W73
    have f79 := f65.other W68 (Or.inl hoa)
    have f80 := f79.other W73 (Or.inl hob)
    have f81 := f70.other W73 (Or.inl hob)
    have f82 := Fw50.other W56 (Or.inl hoa)
    have f83 := f82.other W63 (Or.inl hob)
    have f84 := f83.other W68 (Or.inl hoa)
    have f85 := f84.other W73 (Or.inl hob)
    have f86 := V68.other W73 hne
    subst e73
    exact Ends.retV X73 hx hlk hret (hb hby d3_143) (by decide) (by decide) ⟨rfl, O73, [nw, i0], ⟨f78, f80, f81, f85, ⟨_, f86, by simp only [List.length_cons, List.length_nil] at *; omega⟩, ⟨_, V73, by simp only [List.length_cons, List.length_nil] at *; omega⟩, hne, hoa, hob⟩, (List.perm_iff_count.mpr fun z => by simp only [List.count_cons, List.count_nil] <;> ac_rfl), by simp only [own_ord] at * <;> omega⟩
  · refine E.ifY (q := 127) X52 hx (hb hby d3_77) (XT.i0_le_t (fun q => hq1 ((own_c_gt _ _).mp q))) ?_
    refine E.aloadN (q := 128) X52 hx (hb hby d3_127) rfl rfl ?_
    refine Ends.getF X52 hx hZ hown (host := "") (Or.inl (hw _ (List.mem_of_getElem? (i := 10) rfl))) Via.refl e52 f51 (hb hby d3_128) ?_
    intro T87 X87 e87
    refine E.iload (q := 133) X87 hx (hb hby d3_131) rfl ?_
    refine E.dloadN (q := 134) X87 hx (hb hby d3_133) rfl ?_
    refine Ends.dst X87 hx hZ e87 f53 (i := 1) rfl (by simp only [List.length_cons]; omega) (hb hby d3_134) ?_
    intro T88 h88 X88 e88 W88 V88
    have V88 : Ary Z h88 kA .double ((.double (FP.i2d (K i0))) :: (.double (FP.i2d (K nw))) :: rk') := V88
    have O88 := O50.wr W88 (Or.inl (List.mem_of_getElem? (i := 1) rfl))
    refine E.aloadN (q := 136) X88 hx (hb hby d3_135) rfl rfl ?_
    have f89 := F_v.other W50 (Or.inr (slot_ne (Or.inl (hw _ (List.mem_of_getElem? (i := 14) rfl))) (Or.inl (hw _ (List.mem_of_getElem? (i := 21) rfl))) (by decide) (t := (.array .int)) (t' := .int) (by decide) (by decide)))
    have f90 := f89.other W88 (Or.inl hoa)
    refine Ends.getF X88 hx hZ hown (host := "") (Or.inl (hw _ (List.mem_of_getElem? (i := 13) rfl))) Via.refl e88 f90 (hb hby d3_136) ?_
    intro T91 X91 e91
    refine E.iload (q := 141) X91 hx (hb hby d3_139) rfl ?_
    refine E.iloadN (q := 142) X91 hx (hb hby d3_141) rfl ?_
    have f92 := A_v'.other W50 (Ne.symm hob)
    have f93 := f92.other W88 (Ne.symm hne)
    refine Ends.ist X91 hx hZ e91 f93 (i := 1) rfl (by simp only [List.length_cons]; omega) (hb hby d3_142) ?_
    intro T94 h94 X94 e94 W94 V94
    have V94 : Ary Z h94 vA .int ((.int i0) :: (.int nw) :: rv') := V94
    have O94 := O88.wr W94 (Or.inl (List.mem_of_getElem? (i := 2) rfl))
    have f95 := E0.wr W50
    have f96 := f95.wr W88
    have f97 := f96.wr W94
    have f98 := f51.other W88 (Or.inl hoa)
    have f99 := f98.other W94 (Or.inl hob)
    have f100 := f90.other W94 (Or.inl hob)
    have f101 := Fw50.other W88 (Or.inl hoa)
    have f102 := f101.other W94 (Or.inl hob)
    have f103 := V88.other W94 hne
    subst e94
    exact Ends.retV X94 hx hlk hret (hb hby d3_143) (by decide) (by decide) ⟨rfl, O94, [i0, nw], ⟨f97, f99, f100, f102, ⟨_, f103, by simp only [List.length_cons, List.length_nil] at *; omega⟩, ⟨_, V94, by simp only [List.length_cons, List.length_nil] at *; omega⟩, hne, hoa, hob⟩, (List.perm_iff_count.mpr fun z => by simp only [List.count_cons, List.count_nil] <;> ac_rfl), by simp only [own_ord] at * <;> omega⟩
theorem efP2 (m : MethodId) (x0 : Addr) (x1 : UInt64) (x2 : Int32) : entryFrame m #[(.ref x0), (.double x1), (.int x2)] 5 = mkF m 0 #[.val (.ref x0), .val (.double x1), .second, .val (.int x2), .unset] [] := by first | (simp [entryFrame, mkF, argsToLocals, Value.category]; done) | rfl
set_option maxRecDepth 65536 in
set_option maxHeartbeats 40000000 in
theorem rmP2 (l : Launch) (Z : State) (a0 : Array Value) (hw : ∀ d ∈ tables_1, d.before a0 Z = true) (oa : Addr) (K : Int32 → Int32) (nw : Int32) (kA vA : Addr) (i0 i1 : Int32) (h0 : Heap) (H0 : HS Z h0 oa kA vA K [i0, i1]) (Q0 : own_ord K [i0, i1]) :
    Con l (⟨"com/example/hourline/hourline/engine/MinHeap", "push", "(DI)V"⟩ : MethodName) prog_36_method_3_code 5 none [] ({ frames := 0, cells := 0, slots := 0, locals := 0 } : Room) #[(.ref oa), (.double (FP.i2d (K nw))), (.int nw)] Z h0 (fun v h L => v = none ∧ Ok h0 h [oa, kA, vA] L ∧ ∃ is, HS Z h oa kA vA K is ∧ is.Perm (nw :: [i0, i1]) ∧ own_ord K is) := by
  refine Con.of (plainFor_of_name pn_1) ?_
  intro p e s m below meth c s₁ hx hZ hby hml hown hnm hret hlk X0 e0
  refine Ends.cast (efP2 m oa (FP.i2d (K nw)) nw) ?_
  show Ends p e below s _ _ _ s₁ (mkF m 0 #[.val (.ref oa), .val (.double (FP.i2d (K nw))), .second, .val (.int nw), .unset] [])
  have O0 := Ok.refl h0 [oa, kA, vA]
  obtain ⟨E0, F_k, F_v, F_s, ⟨rk, A_k, hrk⟩, ⟨rv, A_v, hrv⟩, hne, hoa, hob⟩ := H0
  obtain ⟨uk, rk', rfl⟩ : ∃ u r, rk = u :: r := by cases rk with | nil => exact absurd hrk (by simp) | cons u r => exact ⟨u, r, rfl⟩
  obtain ⟨uv, rv', rfl⟩ : ∃ u r, rv = u :: r := by cases rv with | nil => exact absurd hrv (by simp) | cons u r => exact ⟨u, r, rfl⟩
  have A_k' : Ary Z h0 kA .double ((.double (FP.i2d (K i0))) :: (.double (FP.i2d (K i1))) :: uk :: rk') := A_k
  have A_v' : Ary Z h0 vA .int ((.int i0) :: (.int i1) :: uv :: rv') := A_v
  have F_s' : Fld Z h0 oa "com/example/hourline/hourline/engine/MinHeap" "size" "I" (.int (2 : Int32)) := F_s
  refine E.aloadN (q := 1) X0 hx (hb hby d3_0) rfl rfl ?_
  refine Ends.getF X0 hx hZ hown (host := "") (Or.inl (hw _ (List.mem_of_getElem? (i := 20) rfl))) Via.refl e0 F_s' (hb hby d3_1) ?_
  intro T104 X104 e104
  refine E.aloadN (q := 5) X104 hx (hb hby d3_4) rfl rfl ?_
  refine Ends.getF X104 hx hZ hown (host := "") (Or.inl (hw _ (List.mem_of_getElem? (i := 10) rfl))) Via.refl e104 F_k (hb hby d3_5) ?_
  intro T105 X105 e105
  refine Ends.alen X105 hx hZ e105 A_k' (hb hby d3_8) (n := (64 : Int32)) (by rw [show List.length ((.double (FP.i2d (K i0))) :: (.double (FP.i2d (K i1))) :: uk :: rk') = 64 from by simp only [List.length_cons, List.length_nil, List.length_map] at *; omega]; rfl) ?_
  refine E.icmpY (q := 46) X105 hx (hb hby d3_9) (XT.ii_ne_t (by decide)) ?_
  refine E.aloadN (q := 47) X105 hx (hb hby d3_46) rfl rfl ?_
  refine E.dup (q := 48) X105 hx (hb hby d3_47) rfl ?_
  refine Ends.getF X105 hx hZ hown (host := "") (Or.inl (hw _ (List.mem_of_getElem? (i := 20) rfl))) Via.refl e105 F_s' (hb hby d3_48) ?_
  intro T106 X106 e106
  refine E.dupX1 (q := 52) X106 hx (hb hby d3_51) rfl rfl ?_
  refine E.iconst (q := 53) (v := (1 : Int32)) X106 hx (hb hby d3_52) rfl ?_
  refine E.iadd (q := 54) X106 hx (hb hby d3_53) ?_
  rw [show ((2 : Int32) + (1 : Int32)) = (3 : Int32) from by decide]
  refine Ends.putF X106 hx hZ hown (host := "") (Or.inl (hw _ (List.mem_of_getElem? (i := 20) rfl))) Via.refl e106 F_s' E0 (Or.inl (hw _ (List.mem_of_getElem? (i := 21) rfl))) (hw _ (List.mem_of_getElem? (i := 2) rfl)) (ty := .int) (by decide) rfl rfl (hb hby d3_54) ?_
  intro T107 h107 X107 e107 W107 Fw107
  have O107 := O0.wr W107 (Or.inl (List.mem_of_getElem? (i := 0) rfl))
  refine E.istore (q := 59) (l' := #[.val (.ref oa), .val (.double (FP.i2d (K nw))), .second, .val (.int nw), .val (.int (2 : Int32))]) X107 hx (hb hby d3_57) rfl ?_
  refine E.iload (q := 61) X107 hx (hb hby d3_59) rfl ?_
  refine E.ifN (q := 64) X107 hx (hb hby d3_61) (XT.i0_le_f (by decide)) ?_
  refine E.aloadN (q := 65) X107 hx (hb hby d3_64) rfl rfl ?_
  have f108 := F_k.other W107 (Or.inr (slot_ne (Or.inl (hw _ (List.mem_of_getElem? (i := 11) rfl))) (Or.inl (hw _ (List.mem_of_getElem? (i := 21) rfl))) (by decide) (t := (.array .double)) (t' := .int) (by decide) (by decide)))
  refine Ends.getF X107 hx hZ hown (host := "") (Or.inl (hw _ (List.mem_of_getElem? (i := 10) rfl))) Via.refl e107 f108 (hb hby d3_65) ?_
  intro T109 X109 e109
  refine E.iload (q := 70) X109 hx (hb hby d3_68) rfl ?_
  refine E.iconst (q := 71) (v := (1 : Int32)) X109 hx (hb hby d3_70) rfl ?_
  refine E.isub (q := 72) X109 hx (hb hby d3_71) ?_
  rw [show ((2 : Int32) - (1 : Int32)) = (1 : Int32) from by decide]
  refine E.iconst (q := 73) (v := (2 : Int32)) X109 hx (hb hby d3_72) rfl ?_
  refine E.idiv (q := 74) X109 hx (hb hby d3_73) (by decide) ?_
  rw [show ((1 : Int32) / (2 : Int32)) = (0 : Int32) from by decide]
  have f110 := A_k'.other W107 (Ne.symm hoa)
  refine Ends.dld X109 hx hZ e109 f110 (i := 0) rfl rfl (hb hby d3_74) ?_
  refine E.dloadN (q := 76) X109 hx (hb hby d3_75) rfl ?_
  refine E.dcmp (q := 77) X109 hx (hb hby d3_76) ?_
  rw [own_dc]
  by_cases hq2 : (K nw).toInt < (K i0).toInt
  · refine E.ifN (q := 80) X109 hx (hb hby d3_77) (XT.i0_le_f ((own_c_gt _ _).mpr hq2)) ?_
    refine E.aloadN (q := 81) X109 hx (hb hby d3_80) rfl rfl ?_
    refine Ends.getF X109 hx hZ hown (host := "") (Or.inl (hw _ (List.mem_of_getElem? (i := 10) rfl))) Via.refl e109 f108 (hb hby d3_81) ?_
    intro T111 X111 e111
    refine E.iload (q := 86) X111 hx (hb hby d3_84) rfl ?_
    refine E.aloadN (q := 87) X111 hx (hb hby d3_86) rfl rfl ?_
    refine Ends.getF X111 hx hZ hown (host := "") (Or.inl (hw _ (List.mem_of_getElem? (i := 10) rfl))) Via.refl e111 f108 (hb hby d3_87) ?_
    intro T112 X112 e112
    refine E.iload (q := 92) X112 hx (hb hby d3_90) rfl ?_
    refine E.iconst (q := 93) (v := (1 : Int32)) X112 hx (hb hby d3_92) rfl ?_
    refine E.isub (q := 94) X112 hx (hb hby d3_93) ?_
    rw [show ((2 : Int32) - (1 : Int32)) = (1 : Int32) from by decide]
    refine E.iconst (q := 95) (v := (2 : Int32)) X112 hx (hb hby d3_94) rfl ?_
    refine E.idiv (q := 96) X112 hx (hb hby d3_95) (by decide) ?_
    rw [show ((1 : Int32) / (2 : Int32)) = (0 : Int32) from by decide]
    refine Ends.dld X112 hx hZ e112 f110 (i := 0) rfl rfl (hb hby d3_96) ?_
    refine Ends.dst X112 hx hZ e112 f110 (i := 2) rfl (by simp only [List.length_cons]; omega) (hb hby d3_97) ?_
    intro T113 h113 X113 e113 W113 V113
    have V113 : Ary Z h113 kA .double ((.double (FP.i2d (K i0))) :: (.double (FP.i2d (K i1))) :: (.double (FP.i2d (K i0))) :: rk') := V113
    have O113 := O107.wr W113 (Or.inl (List.mem_of_getElem? (i := 1) rfl))
    refine E.aloadN (q := 99) X113 hx (hb hby d3_98) rfl rfl ?_
    have f114 := F_v.other W107 (Or.inr (slot_ne (Or.inl (hw _ (List.mem_of_getElem? (i := 14) rfl))) (Or.inl (hw _ (List.mem_of_getElem? (i := 21) rfl))) (by decide) (t := (.array .int)) (t' := .int) (by decide) (by decide)))
    have f115 := f114.other W113 (Or.inl hoa)
    refine Ends.getF X113 hx hZ hown (host := "") (Or.inl (hw _ (List.mem_of_getElem? (i := 13) rfl))) Via.refl e113 f115 (hb hby d3_99) ?_
    intro T116 X116 e116
    refine E.iload (q := 104) X116 hx (hb hby d3_102) rfl ?_
    refine E.aloadN (q := 105) X116 hx (hb hby d3_104) rfl rfl ?_
    refine Ends.getF X116 hx hZ hown (host := "") (Or.inl (hw _ (List.mem_of_getElem? (i := 13) rfl))) Via.refl e116 f115 (hb hby d3_105) ?_
    intro T117 X117 e117
    refine E.iload (q := 110) X117 hx (hb hby d3_108) rfl ?_
    refine E.iconst (q := 111) (v := (1 : Int32)) X117 hx (hb hby d3_110) rfl ?_
    refine E.isub (q := 112) X117 hx (hb hby d3_111) ?_
    rw [show ((2 : Int32) - (1 : Int32)) = (1 : Int32) from by decide]
    refine E.iconst (q := 113) (v := (2 : Int32)) X117 hx (hb hby d3_112) rfl ?_
    refine E.idiv (q := 114) X117 hx (hb hby d3_113) (by decide) ?_
    rw [show ((1 : Int32) / (2 : Int32)) = (0 : Int32) from by decide]
    have f118 := A_v'.other W107 (Ne.symm hob)
    have f119 := f118.other W113 (Ne.symm hne)
    refine Ends.ild X117 hx hZ e117 f119 (i := 0) rfl rfl (hb hby d3_114) ?_
    refine Ends.ist X117 hx hZ e117 f119 (i := 2) rfl (by simp only [List.length_cons]; omega) (hb hby d3_115) ?_
    intro T120 h120 X120 e120 W120 V120
    have V120 : Ary Z h120 vA .int ((.int i0) :: (.int i1) :: (.int i0) :: rv') := V120
    have O120 := O113.wr W120 (Or.inl (List.mem_of_getElem? (i := 2) rfl))
    refine E.iload (q := 118) X120 hx (hb hby d3_116) rfl ?_
    refine E.iconst (q := 119) (v := (1 : Int32)) X120 hx (hb hby d3_118) rfl ?_
    refine E.isub (q := 120) X120 hx (hb hby d3_119) ?_
    rw [show ((2 : Int32) - (1 : Int32)) = (1 : Int32) from by decide]
    refine E.iconst (q := 121) (v := (2 : Int32)) X120 hx (hb hby d3_120) rfl ?_
    refine E.idiv (q := 122) X120 hx (hb hby d3_121) (by decide) ?_
    rw [show ((1 : Int32) / (2 : Int32)) = (0 : Int32) from by decide]
    refine E.istore (q := 124) (l' := #[.val (.ref oa), .val (.double (FP.i2d (K nw))), .second, .val (.int nw), .val (.int (0 : Int32))]) X120 hx (hb hby d3_122) rfl ?_
    refine E.goto (q := 59) X120 hx (hb hby d3_124) ?_
    refine E.iload (q := 61) X120 hx (hb hby d3_59) rfl ?_
    refine E.ifY (q := 127) X120 hx (hb hby d3_61) (XT.i0_le_t (by decide)) ?_
    refine E.aloadN (q := 128) X120 hx (hb hby d3_127) rfl rfl ?_
    have f121 := f108.other W113 (Or.inl hoa)
    have f122 := f121.other W120 (Or.inl hob)
    refine Ends.getF X120 hx hZ hown (host := "") (Or.inl (hw _ (List.mem_of_getElem? (i := 10) rfl))) Via.refl e120 f122 (hb hby d3_128) ?_
    intro T123 X123 e123
    refine E.iload (q := 133) X123 hx (hb hby d3_131) rfl ?_
    refine E.dloadN (q := 134) X123 hx (hb hby d3_133) rfl ?_
    have f124 := V113.other W120 hne
    refine Ends.dst X123 hx hZ e123 f124 (i := 0) rfl (by simp only [List.length_cons]; omega) (hb hby d3_134) ?_
    intro T125 h125 X125 e125 W125 V125
    have V125 : Ary Z h125 kA .double ((.double (FP.i2d (K nw))) :: (.double (FP.i2d (K i1))) :: (.double (FP.i2d (K i0))) :: rk') := V125
    have O125 := O120.wr W125 (Or.inl (List.mem_of_getElem? (i := 1) rfl))
    refine E.aloadN (q := 136) X125 hx (hb hby d3_135) rfl rfl ?_
    have f126 := f115.other W120 (Or.inl hob)
    have f127 := f126.other W125 (Or.inl hoa)
    refine Ends.getF X125 hx hZ hown (host := "") (Or.inl (hw _ (List.mem_of_getElem? (i := 13) rfl))) Via.refl e125 f127 (hb hby d3_136) ?_
    intro T128 X128 e128
    refine E.iload (q := 141) X128 hx (hb hby d3_139) rfl ?_
    refine E.iloadN (q := 142) X128 hx (hb hby d3_141) rfl ?_
    have f129 := V120.other W125 (Ne.symm hne)
    refine Ends.ist X128 hx hZ e128 f129 (i := 0) rfl (by simp only [List.length_cons]; omega) (hb hby d3_142) ?_
    intro T130 h130 X130 e130 W130 V130
    have V130 : Ary Z h130 vA .int ((.int nw) :: (.int i1) :: (.int i0) :: rv') := V130
    have O130 := O125.wr W130 (Or.inl (List.mem_of_getElem? (i := 2) rfl))
    have f131 := E0.wr W107
    have f132 := f131.wr W113
    have f133 := f132.wr W120
    have f134 := f133.wr W125
    have f135 := f134.wr W130
    have f136 := f122.other W125 (Or.inl hoa)
    have f137 := f136.other W130 (Or.inl hob)
    have f138 := f127.other W130 (Or.inl hob)
    have f139 := Fw107.other W113 (Or.inl hoa)
    have f140 := f139.other W120 (Or.inl hob)
    have f141 := f140.other W125 (Or.inl hoa)
    have f142 := f141.other W130 (Or.inl hob)
    have f143 := V125.other W130 hne
    subst e130
    exact Ends.retV X130 hx hlk hret (hb hby d3_143) (by decide) (by decide) ⟨rfl, O130, [nw, i1, i0], ⟨f135, f137, f138, f142, ⟨_, f143, by simp only [List.length_cons, List.length_nil] at *; omega⟩, ⟨_, V130, by simp only [List.length_cons, List.length_nil] at *; omega⟩, hne, hoa, hob⟩, (List.perm_iff_count.mpr fun z => by simp only [List.count_cons, List.count_nil] <;> ac_rfl), by simp only [own_ord] at * <;> omega⟩
  · refine E.ifY (q := 127) X109 hx (hb hby d3_77) (XT.i0_le_t (fun q => hq2 ((own_c_gt _ _).mp q))) ?_
    refine E.aloadN (q := 128) X109 hx (hb hby d3_127) rfl rfl ?_
    refine Ends.getF X109 hx hZ hown (host := "") (Or.inl (hw _ (List.mem_of_getElem? (i := 10) rfl))) Via.refl e109 f108 (hb hby d3_128) ?_
    intro T144 X144 e144
    refine E.iload (q := 133) X144 hx (hb hby d3_131) rfl ?_
    refine E.dloadN (q := 134) X144 hx (hb hby d3_133) rfl ?_
    refine Ends.dst X144 hx hZ e144 f110 (i := 2) rfl (by simp only [List.length_cons]; omega) (hb hby d3_134) ?_
    intro T145 h145 X145 e145 W145 V145
    have V145 : Ary Z h145 kA .double ((.double (FP.i2d (K i0))) :: (.double (FP.i2d (K i1))) :: (.double (FP.i2d (K nw))) :: rk') := V145
    have O145 := O107.wr W145 (Or.inl (List.mem_of_getElem? (i := 1) rfl))
    refine E.aloadN (q := 136) X145 hx (hb hby d3_135) rfl rfl ?_
    have f146 := F_v.other W107 (Or.inr (slot_ne (Or.inl (hw _ (List.mem_of_getElem? (i := 14) rfl))) (Or.inl (hw _ (List.mem_of_getElem? (i := 21) rfl))) (by decide) (t := (.array .int)) (t' := .int) (by decide) (by decide)))
    have f147 := f146.other W145 (Or.inl hoa)
    refine Ends.getF X145 hx hZ hown (host := "") (Or.inl (hw _ (List.mem_of_getElem? (i := 13) rfl))) Via.refl e145 f147 (hb hby d3_136) ?_
    intro T148 X148 e148
    refine E.iload (q := 141) X148 hx (hb hby d3_139) rfl ?_
    refine E.iloadN (q := 142) X148 hx (hb hby d3_141) rfl ?_
    have f149 := A_v'.other W107 (Ne.symm hob)
    have f150 := f149.other W145 (Ne.symm hne)
    refine Ends.ist X148 hx hZ e148 f150 (i := 2) rfl (by simp only [List.length_cons]; omega) (hb hby d3_142) ?_
    intro T151 h151 X151 e151 W151 V151
    have V151 : Ary Z h151 vA .int ((.int i0) :: (.int i1) :: (.int nw) :: rv') := V151
    have O151 := O145.wr W151 (Or.inl (List.mem_of_getElem? (i := 2) rfl))
    have f152 := E0.wr W107
    have f153 := f152.wr W145
    have f154 := f153.wr W151
    have f155 := f108.other W145 (Or.inl hoa)
    have f156 := f155.other W151 (Or.inl hob)
    have f157 := f147.other W151 (Or.inl hob)
    have f158 := Fw107.other W145 (Or.inl hoa)
    have f159 := f158.other W151 (Or.inl hob)
    have f160 := V145.other W151 hne
    subst e151
    exact Ends.retV X151 hx hlk hret (hb hby d3_143) (by decide) (by decide) ⟨rfl, O151, [i0, i1, nw], ⟨f154, f156, f157, f159, ⟨_, f160, by simp only [List.length_cons, List.length_nil] at *; omega⟩, ⟨_, V151, by simp only [List.length_cons, List.length_nil] at *; omega⟩, hne, hoa, hob⟩, (List.perm_iff_count.mpr fun z => by simp only [List.count_cons, List.count_nil] <;> ac_rfl), by simp only [own_ord] at * <;> omega⟩
theorem efP3 (m : MethodId) (x0 : Addr) (x1 : UInt64) (x2 : Int32) : entryFrame m #[(.ref x0), (.double x1), (.int x2)] 5 = mkF m 0 #[.val (.ref x0), .val (.double x1), .second, .val (.int x2), .unset] [] := by first | (simp [entryFrame, mkF, argsToLocals, Value.category]; done) | rfl
set_option maxRecDepth 65536 in
set_option maxHeartbeats 40000000 in
theorem rmP3 (l : Launch) (Z : State) (a0 : Array Value) (hw : ∀ d ∈ tables_1, d.before a0 Z = true) (oa : Addr) (K : Int32 → Int32) (nw : Int32) (kA vA : Addr) (i0 i1 i2 : Int32) (h0 : Heap) (H0 : HS Z h0 oa kA vA K [i0, i1, i2]) (Q0 : own_ord K [i0, i1, i2]) :
    Con l (⟨"com/example/hourline/hourline/engine/MinHeap", "push", "(DI)V"⟩ : MethodName) prog_36_method_3_code 5 none [] ({ frames := 0, cells := 0, slots := 0, locals := 0 } : Room) #[(.ref oa), (.double (FP.i2d (K nw))), (.int nw)] Z h0 (fun v h L => v = none ∧ Ok h0 h [oa, kA, vA] L ∧ ∃ is, HS Z h oa kA vA K is ∧ is.Perm (nw :: [i0, i1, i2]) ∧ own_ord K is) := by
  refine Con.of (plainFor_of_name pn_1) ?_
  intro p e s m below meth c s₁ hx hZ hby hml hown hnm hret hlk X0 e0
  refine Ends.cast (efP3 m oa (FP.i2d (K nw)) nw) ?_
  show Ends p e below s _ _ _ s₁ (mkF m 0 #[.val (.ref oa), .val (.double (FP.i2d (K nw))), .second, .val (.int nw), .unset] [])
  have O0 := Ok.refl h0 [oa, kA, vA]
  obtain ⟨E0, F_k, F_v, F_s, ⟨rk, A_k, hrk⟩, ⟨rv, A_v, hrv⟩, hne, hoa, hob⟩ := H0
  obtain ⟨uk, rk', rfl⟩ : ∃ u r, rk = u :: r := by cases rk with | nil => exact absurd hrk (by simp) | cons u r => exact ⟨u, r, rfl⟩
  obtain ⟨uv, rv', rfl⟩ : ∃ u r, rv = u :: r := by cases rv with | nil => exact absurd hrv (by simp) | cons u r => exact ⟨u, r, rfl⟩
  have A_k' : Ary Z h0 kA .double ((.double (FP.i2d (K i0))) :: (.double (FP.i2d (K i1))) :: (.double (FP.i2d (K i2))) :: uk :: rk') := A_k
  have A_v' : Ary Z h0 vA .int ((.int i0) :: (.int i1) :: (.int i2) :: uv :: rv') := A_v
  have F_s' : Fld Z h0 oa "com/example/hourline/hourline/engine/MinHeap" "size" "I" (.int (3 : Int32)) := F_s
  refine E.aloadN (q := 1) X0 hx (hb hby d3_0) rfl rfl ?_
  refine Ends.getF X0 hx hZ hown (host := "") (Or.inl (hw _ (List.mem_of_getElem? (i := 20) rfl))) Via.refl e0 F_s' (hb hby d3_1) ?_
  intro T161 X161 e161
  refine E.aloadN (q := 5) X161 hx (hb hby d3_4) rfl rfl ?_
  refine Ends.getF X161 hx hZ hown (host := "") (Or.inl (hw _ (List.mem_of_getElem? (i := 10) rfl))) Via.refl e161 F_k (hb hby d3_5) ?_
  intro T162 X162 e162
  refine Ends.alen X162 hx hZ e162 A_k' (hb hby d3_8) (n := (64 : Int32)) (by rw [show List.length ((.double (FP.i2d (K i0))) :: (.double (FP.i2d (K i1))) :: (.double (FP.i2d (K i2))) :: uk :: rk') = 64 from by simp only [List.length_cons, List.length_nil, List.length_map] at *; omega]; rfl) ?_
  refine E.icmpY (q := 46) X162 hx (hb hby d3_9) (XT.ii_ne_t (by decide)) ?_
  refine E.aloadN (q := 47) X162 hx (hb hby d3_46) rfl rfl ?_
  refine E.dup (q := 48) X162 hx (hb hby d3_47) rfl ?_
  refine Ends.getF X162 hx hZ hown (host := "") (Or.inl (hw _ (List.mem_of_getElem? (i := 20) rfl))) Via.refl e162 F_s' (hb hby d3_48) ?_
  intro T163 X163 e163
  refine E.dupX1 (q := 52) X163 hx (hb hby d3_51) rfl rfl ?_
  refine E.iconst (q := 53) (v := (1 : Int32)) X163 hx (hb hby d3_52) rfl ?_
  refine E.iadd (q := 54) X163 hx (hb hby d3_53) ?_
  rw [show ((3 : Int32) + (1 : Int32)) = (4 : Int32) from by decide]
  refine Ends.putF X163 hx hZ hown (host := "") (Or.inl (hw _ (List.mem_of_getElem? (i := 20) rfl))) Via.refl e163 F_s' E0 (Or.inl (hw _ (List.mem_of_getElem? (i := 21) rfl))) (hw _ (List.mem_of_getElem? (i := 2) rfl)) (ty := .int) (by decide) rfl rfl (hb hby d3_54) ?_
  intro T164 h164 X164 e164 W164 Fw164
  have O164 := O0.wr W164 (Or.inl (List.mem_of_getElem? (i := 0) rfl))
  refine E.istore (q := 59) (l' := #[.val (.ref oa), .val (.double (FP.i2d (K nw))), .second, .val (.int nw), .val (.int (3 : Int32))]) X164 hx (hb hby d3_57) rfl ?_
  refine E.iload (q := 61) X164 hx (hb hby d3_59) rfl ?_
  refine E.ifN (q := 64) X164 hx (hb hby d3_61) (XT.i0_le_f (by decide)) ?_
  refine E.aloadN (q := 65) X164 hx (hb hby d3_64) rfl rfl ?_
  have f165 := F_k.other W164 (Or.inr (slot_ne (Or.inl (hw _ (List.mem_of_getElem? (i := 11) rfl))) (Or.inl (hw _ (List.mem_of_getElem? (i := 21) rfl))) (by decide) (t := (.array .double)) (t' := .int) (by decide) (by decide)))
  refine Ends.getF X164 hx hZ hown (host := "") (Or.inl (hw _ (List.mem_of_getElem? (i := 10) rfl))) Via.refl e164 f165 (hb hby d3_65) ?_
  intro T166 X166 e166
  refine E.iload (q := 70) X166 hx (hb hby d3_68) rfl ?_
  refine E.iconst (q := 71) (v := (1 : Int32)) X166 hx (hb hby d3_70) rfl ?_
  refine E.isub (q := 72) X166 hx (hb hby d3_71) ?_
  rw [show ((3 : Int32) - (1 : Int32)) = (2 : Int32) from by decide]
  refine E.iconst (q := 73) (v := (2 : Int32)) X166 hx (hb hby d3_72) rfl ?_
  refine E.idiv (q := 74) X166 hx (hb hby d3_73) (by decide) ?_
  rw [show ((2 : Int32) / (2 : Int32)) = (1 : Int32) from by decide]
  have f167 := A_k'.other W164 (Ne.symm hoa)
  refine Ends.dld X166 hx hZ e166 f167 (i := 1) rfl rfl (hb hby d3_74) ?_
  refine E.dloadN (q := 76) X166 hx (hb hby d3_75) rfl ?_
  refine E.dcmp (q := 77) X166 hx (hb hby d3_76) ?_
  rw [own_dc]
  by_cases hq3 : (K nw).toInt < (K i1).toInt
  · refine E.ifN (q := 80) X166 hx (hb hby d3_77) (XT.i0_le_f ((own_c_gt _ _).mpr hq3)) ?_
    refine E.aloadN (q := 81) X166 hx (hb hby d3_80) rfl rfl ?_
    refine Ends.getF X166 hx hZ hown (host := "") (Or.inl (hw _ (List.mem_of_getElem? (i := 10) rfl))) Via.refl e166 f165 (hb hby d3_81) ?_
    intro T168 X168 e168
    refine E.iload (q := 86) X168 hx (hb hby d3_84) rfl ?_
    refine E.aloadN (q := 87) X168 hx (hb hby d3_86) rfl rfl ?_
    refine Ends.getF X168 hx hZ hown (host := "") (Or.inl (hw _ (List.mem_of_getElem? (i := 10) rfl))) Via.refl e168 f165 (hb hby d3_87) ?_
    intro T169 X169 e169
    refine E.iload (q := 92) X169 hx (hb hby d3_90) rfl ?_
    refine E.iconst (q := 93) (v := (1 : Int32)) X169 hx (hb hby d3_92) rfl ?_
    refine E.isub (q := 94) X169 hx (hb hby d3_93) ?_
    rw [show ((3 : Int32) - (1 : Int32)) = (2 : Int32) from by decide]
    refine E.iconst (q := 95) (v := (2 : Int32)) X169 hx (hb hby d3_94) rfl ?_
    refine E.idiv (q := 96) X169 hx (hb hby d3_95) (by decide) ?_
    rw [show ((2 : Int32) / (2 : Int32)) = (1 : Int32) from by decide]
    refine Ends.dld X169 hx hZ e169 f167 (i := 1) rfl rfl (hb hby d3_96) ?_
    refine Ends.dst X169 hx hZ e169 f167 (i := 3) rfl (by simp only [List.length_cons]; omega) (hb hby d3_97) ?_
    intro T170 h170 X170 e170 W170 V170
    have V170 : Ary Z h170 kA .double ((.double (FP.i2d (K i0))) :: (.double (FP.i2d (K i1))) :: (.double (FP.i2d (K i2))) :: (.double (FP.i2d (K i1))) :: rk') := V170
    have O170 := O164.wr W170 (Or.inl (List.mem_of_getElem? (i := 1) rfl))
    refine E.aloadN (q := 99) X170 hx (hb hby d3_98) rfl rfl ?_
    have f171 := F_v.other W164 (Or.inr (slot_ne (Or.inl (hw _ (List.mem_of_getElem? (i := 14) rfl))) (Or.inl (hw _ (List.mem_of_getElem? (i := 21) rfl))) (by decide) (t := (.array .int)) (t' := .int) (by decide) (by decide)))
    have f172 := f171.other W170 (Or.inl hoa)
    refine Ends.getF X170 hx hZ hown (host := "") (Or.inl (hw _ (List.mem_of_getElem? (i := 13) rfl))) Via.refl e170 f172 (hb hby d3_99) ?_
    intro T173 X173 e173
    refine E.iload (q := 104) X173 hx (hb hby d3_102) rfl ?_
    refine E.aloadN (q := 105) X173 hx (hb hby d3_104) rfl rfl ?_
    refine Ends.getF X173 hx hZ hown (host := "") (Or.inl (hw _ (List.mem_of_getElem? (i := 13) rfl))) Via.refl e173 f172 (hb hby d3_105) ?_
    intro T174 X174 e174
    refine E.iload (q := 110) X174 hx (hb hby d3_108) rfl ?_
    refine E.iconst (q := 111) (v := (1 : Int32)) X174 hx (hb hby d3_110) rfl ?_
    refine E.isub (q := 112) X174 hx (hb hby d3_111) ?_
    rw [show ((3 : Int32) - (1 : Int32)) = (2 : Int32) from by decide]
    refine E.iconst (q := 113) (v := (2 : Int32)) X174 hx (hb hby d3_112) rfl ?_
    refine E.idiv (q := 114) X174 hx (hb hby d3_113) (by decide) ?_
    rw [show ((2 : Int32) / (2 : Int32)) = (1 : Int32) from by decide]
    have f175 := A_v'.other W164 (Ne.symm hob)
    have f176 := f175.other W170 (Ne.symm hne)
    refine Ends.ild X174 hx hZ e174 f176 (i := 1) rfl rfl (hb hby d3_114) ?_
    refine Ends.ist X174 hx hZ e174 f176 (i := 3) rfl (by simp only [List.length_cons]; omega) (hb hby d3_115) ?_
    intro T177 h177 X177 e177 W177 V177
    have V177 : Ary Z h177 vA .int ((.int i0) :: (.int i1) :: (.int i2) :: (.int i1) :: rv') := V177
    have O177 := O170.wr W177 (Or.inl (List.mem_of_getElem? (i := 2) rfl))
    refine E.iload (q := 118) X177 hx (hb hby d3_116) rfl ?_
    refine E.iconst (q := 119) (v := (1 : Int32)) X177 hx (hb hby d3_118) rfl ?_
    refine E.isub (q := 120) X177 hx (hb hby d3_119) ?_
    rw [show ((3 : Int32) - (1 : Int32)) = (2 : Int32) from by decide]
    refine E.iconst (q := 121) (v := (2 : Int32)) X177 hx (hb hby d3_120) rfl ?_
    refine E.idiv (q := 122) X177 hx (hb hby d3_121) (by decide) ?_
    rw [show ((2 : Int32) / (2 : Int32)) = (1 : Int32) from by decide]
    refine E.istore (q := 124) (l' := #[.val (.ref oa), .val (.double (FP.i2d (K nw))), .second, .val (.int nw), .val (.int (1 : Int32))]) X177 hx (hb hby d3_122) rfl ?_
    refine E.goto (q := 59) X177 hx (hb hby d3_124) ?_
    refine E.iload (q := 61) X177 hx (hb hby d3_59) rfl ?_
    refine E.ifN (q := 64) X177 hx (hb hby d3_61) (XT.i0_le_f (by decide)) ?_
    refine E.aloadN (q := 65) X177 hx (hb hby d3_64) rfl rfl ?_
    have f178 := f165.other W170 (Or.inl hoa)
    have f179 := f178.other W177 (Or.inl hob)
    refine Ends.getF X177 hx hZ hown (host := "") (Or.inl (hw _ (List.mem_of_getElem? (i := 10) rfl))) Via.refl e177 f179 (hb hby d3_65) ?_
    intro T180 X180 e180
    refine E.iload (q := 70) X180 hx (hb hby d3_68) rfl ?_
    refine E.iconst (q := 71) (v := (1 : Int32)) X180 hx (hb hby d3_70) rfl ?_
    refine E.isub (q := 72) X180 hx (hb hby d3_71) ?_
    rw [show ((1 : Int32) - (1 : Int32)) = (0 : Int32) from by decide]
    refine E.iconst (q := 73) (v := (2 : Int32)) X180 hx (hb hby d3_72) rfl ?_
    refine E.idiv (q := 74) X180 hx (hb hby d3_73) (by decide) ?_
    rw [show ((0 : Int32) / (2 : Int32)) = (0 : Int32) from by decide]
    have f181 := V170.other W177 hne
    refine Ends.dld X180 hx hZ e180 f181 (i := 0) rfl rfl (hb hby d3_74) ?_
    refine E.dloadN (q := 76) X180 hx (hb hby d3_75) rfl ?_
    refine E.dcmp (q := 77) X180 hx (hb hby d3_76) ?_
    rw [own_dc]
    by_cases hq4 : (K nw).toInt < (K i0).toInt
    · refine E.ifN (q := 80) X180 hx (hb hby d3_77) (XT.i0_le_f ((own_c_gt _ _).mpr hq4)) ?_
      refine E.aloadN (q := 81) X180 hx (hb hby d3_80) rfl rfl ?_
      refine Ends.getF X180 hx hZ hown (host := "") (Or.inl (hw _ (List.mem_of_getElem? (i := 10) rfl))) Via.refl e180 f179 (hb hby d3_81) ?_
      intro T182 X182 e182
      refine E.iload (q := 86) X182 hx (hb hby d3_84) rfl ?_
      refine E.aloadN (q := 87) X182 hx (hb hby d3_86) rfl rfl ?_
      refine Ends.getF X182 hx hZ hown (host := "") (Or.inl (hw _ (List.mem_of_getElem? (i := 10) rfl))) Via.refl e182 f179 (hb hby d3_87) ?_
      intro T183 X183 e183
      refine E.iload (q := 92) X183 hx (hb hby d3_90) rfl ?_
      refine E.iconst (q := 93) (v := (1 : Int32)) X183 hx (hb hby d3_92) rfl ?_
      refine E.isub (q := 94) X183 hx (hb hby d3_93) ?_
      rw [show ((1 : Int32) - (1 : Int32)) = (0 : Int32) from by decide]
      refine E.iconst (q := 95) (v := (2 : Int32)) X183 hx (hb hby d3_94) rfl ?_
      refine E.idiv (q := 96) X183 hx (hb hby d3_95) (by decide) ?_
      rw [show ((0 : Int32) / (2 : Int32)) = (0 : Int32) from by decide]
      refine Ends.dld X183 hx hZ e183 f181 (i := 0) rfl rfl (hb hby d3_96) ?_
      refine Ends.dst X183 hx hZ e183 f181 (i := 1) rfl (by simp only [List.length_cons]; omega) (hb hby d3_97) ?_
      intro T184 h184 X184 e184 W184 V184
      have V184 : Ary Z h184 kA .double ((.double (FP.i2d (K i0))) :: (.double (FP.i2d (K i0))) :: (.double (FP.i2d (K i2))) :: (.double (FP.i2d (K i1))) :: rk') := V184
      have O184 := O177.wr W184 (Or.inl (List.mem_of_getElem? (i := 1) rfl))
      refine E.aloadN (q := 99) X184 hx (hb hby d3_98) rfl rfl ?_
      have f185 := f172.other W177 (Or.inl hob)
      have f186 := f185.other W184 (Or.inl hoa)
      refine Ends.getF X184 hx hZ hown (host := "") (Or.inl (hw _ (List.mem_of_getElem? (i := 13) rfl))) Via.refl e184 f186 (hb hby d3_99) ?_
      intro T187 X187 e187
      refine E.iload (q := 104) X187 hx (hb hby d3_102) rfl ?_
      refine E.aloadN (q := 105) X187 hx (hb hby d3_104) rfl rfl ?_
      refine Ends.getF X187 hx hZ hown (host := "") (Or.inl (hw _ (List.mem_of_getElem? (i := 13) rfl))) Via.refl e187 f186 (hb hby d3_105) ?_
      intro T188 X188 e188
      refine E.iload (q := 110) X188 hx (hb hby d3_108) rfl ?_
      refine E.iconst (q := 111) (v := (1 : Int32)) X188 hx (hb hby d3_110) rfl ?_
      refine E.isub (q := 112) X188 hx (hb hby d3_111) ?_
      rw [show ((1 : Int32) - (1 : Int32)) = (0 : Int32) from by decide]
      refine E.iconst (q := 113) (v := (2 : Int32)) X188 hx (hb hby d3_112) rfl ?_
      refine E.idiv (q := 114) X188 hx (hb hby d3_113) (by decide) ?_
      rw [show ((0 : Int32) / (2 : Int32)) = (0 : Int32) from by decide]
      have f189 := V177.other W184 (Ne.symm hne)
      refine Ends.ild X188 hx hZ e188 f189 (i := 0) rfl rfl (hb hby d3_114) ?_
      refine Ends.ist X188 hx hZ e188 f189 (i := 1) rfl (by simp only [List.length_cons]; omega) (hb hby d3_115) ?_
      intro T190 h190 X190 e190 W190 V190
      have V190 : Ary Z h190 vA .int ((.int i0) :: (.int i0) :: (.int i2) :: (.int i1) :: rv') := V190
      have O190 := O184.wr W190 (Or.inl (List.mem_of_getElem? (i := 2) rfl))
      refine E.iload (q := 118) X190 hx (hb hby d3_116) rfl ?_
      refine E.iconst (q := 119) (v := (1 : Int32)) X190 hx (hb hby d3_118) rfl ?_
      refine E.isub (q := 120) X190 hx (hb hby d3_119) ?_
      rw [show ((1 : Int32) - (1 : Int32)) = (0 : Int32) from by decide]
      refine E.iconst (q := 121) (v := (2 : Int32)) X190 hx (hb hby d3_120) rfl ?_
      refine E.idiv (q := 122) X190 hx (hb hby d3_121) (by decide) ?_
      rw [show ((0 : Int32) / (2 : Int32)) = (0 : Int32) from by decide]
      refine E.istore (q := 124) (l' := #[.val (.ref oa), .val (.double (FP.i2d (K nw))), .second, .val (.int nw), .val (.int (0 : Int32))]) X190 hx (hb hby d3_122) rfl ?_
      refine E.goto (q := 59) X190 hx (hb hby d3_124) ?_
      refine E.iload (q := 61) X190 hx (hb hby d3_59) rfl ?_
      refine E.ifY (q := 127) X190 hx (hb hby d3_61) (XT.i0_le_t (by decide)) ?_
      refine E.aloadN (q := 128) X190 hx (hb hby d3_127) rfl rfl ?_
      have f191 := f179.other W184 (Or.inl hoa)
      have f192 := f191.other W190 (Or.inl hob)
      refine Ends.getF X190 hx hZ hown (host := "") (Or.inl (hw _ (List.mem_of_getElem? (i := 10) rfl))) Via.refl e190 f192 (hb hby d3_128) ?_
      intro T193 X193 e193
      refine E.iload (q := 133) X193 hx (hb hby d3_131) rfl ?_
      refine E.dloadN (q := 134) X193 hx (hb hby d3_133) rfl ?_
      have f194 := V184.other W190 hne
      refine Ends.dst X193 hx hZ e193 f194 (i := 0) rfl (by simp only [List.length_cons]; omega) (hb hby d3_134) ?_
      intro T195 h195 X195 e195 W195 V195
      have V195 : Ary Z h195 kA .double ((.double (FP.i2d (K nw))) :: (.double (FP.i2d (K i0))) :: (.double (FP.i2d (K i2))) :: (.double (FP.i2d (K i1))) :: rk') := V195
      have O195 := O190.wr W195 (Or.inl (List.mem_of_getElem? (i := 1) rfl))
      refine E.aloadN (q := 136) X195 hx (hb hby d3_135) rfl rfl ?_
      have f196 := f186.other W190 (Or.inl hob)
      have f197 := f196.other W195 (Or.inl hoa)
      refine Ends.getF X195 hx hZ hown (host := "") (Or.inl (hw _ (List.mem_of_getElem? (i := 13) rfl))) Via.refl e195 f197 (hb hby d3_136) ?_
      intro T198 X198 e198
      refine E.iload (q := 141) X198 hx (hb hby d3_139) rfl ?_
      refine E.iloadN (q := 142) X198 hx (hb hby d3_141) rfl ?_
      have f199 := V190.other W195 (Ne.symm hne)
      refine Ends.ist X198 hx hZ e198 f199 (i := 0) rfl (by simp only [List.length_cons]; omega) (hb hby d3_142) ?_
      intro T200 h200 X200 e200 W200 V200
      have V200 : Ary Z h200 vA .int ((.int nw) :: (.int i0) :: (.int i2) :: (.int i1) :: rv') := V200
      have O200 := O195.wr W200 (Or.inl (List.mem_of_getElem? (i := 2) rfl))
      have f201 := E0.wr W164
      have f202 := f201.wr W170
      have f203 := f202.wr W177
      have f204 := f203.wr W184
      have f205 := f204.wr W190
      have f206 := f205.wr W195
      have f207 := f206.wr W200
      have f208 := f192.other W195 (Or.inl hoa)
      have f209 := f208.other W200 (Or.inl hob)
      have f210 := f197.other W200 (Or.inl hob)
      have f211 := Fw164.other W170 (Or.inl hoa)
      have f212 := f211.other W177 (Or.inl hob)
      have f213 := f212.other W184 (Or.inl hoa)
      have f214 := f213.other W190 (Or.inl hob)
      have f215 := f214.other W195 (Or.inl hoa)
      have f216 := f215.other W200 (Or.inl hob)
      have f217 := V195.other W200 hne
      subst e200
      exact Ends.retV X200 hx hlk hret (hb hby d3_143) (by decide) (by decide) ⟨rfl, O200, [nw, i0, i2, i1], ⟨f207, f209, f210, f216, ⟨_, f217, by simp only [List.length_cons, List.length_nil] at *; omega⟩, ⟨_, V200, by simp only [List.length_cons, List.length_nil] at *; omega⟩, hne, hoa, hob⟩, (List.perm_iff_count.mpr fun z => by simp only [List.count_cons, List.count_nil] <;> ac_rfl), by simp only [own_ord] at * <;> omega⟩
    · refine E.ifY (q := 127) X180 hx (hb hby d3_77) (XT.i0_le_t (fun q => hq4 ((own_c_gt _ _).mp q))) ?_
      refine E.aloadN (q := 128) X180 hx (hb hby d3_127) rfl rfl ?_
      refine Ends.getF X180 hx hZ hown (host := "") (Or.inl (hw _ (List.mem_of_getElem? (i := 10) rfl))) Via.refl e180 f179 (hb hby d3_128) ?_
      intro T218 X218 e218
      refine E.iload (q := 133) X218 hx (hb hby d3_131) rfl ?_
      refine E.dloadN (q := 134) X218 hx (hb hby d3_133) rfl ?_
      refine Ends.dst X218 hx hZ e218 f181 (i := 1) rfl (by simp only [List.length_cons]; omega) (hb hby d3_134) ?_
      intro T219 h219 X219 e219 W219 V219
      have V219 : Ary Z h219 kA .double ((.double (FP.i2d (K i0))) :: (.double (FP.i2d (K nw))) :: (.double (FP.i2d (K i2))) :: (.double (FP.i2d (K i1))) :: rk') := V219
      have O219 := O177.wr W219 (Or.inl (List.mem_of_getElem? (i := 1) rfl))
      refine E.aloadN (q := 136) X219 hx (hb hby d3_135) rfl rfl ?_
      have f220 := f172.other W177 (Or.inl hob)
      have f221 := f220.other W219 (Or.inl hoa)
      refine Ends.getF X219 hx hZ hown (host := "") (Or.inl (hw _ (List.mem_of_getElem? (i := 13) rfl))) Via.refl e219 f221 (hb hby d3_136) ?_
      intro T222 X222 e222
      refine E.iload (q := 141) X222 hx (hb hby d3_139) rfl ?_
      refine E.iloadN (q := 142) X222 hx (hb hby d3_141) rfl ?_
      have f223 := V177.other W219 (Ne.symm hne)
      refine Ends.ist X222 hx hZ e222 f223 (i := 1) rfl (by simp only [List.length_cons]; omega) (hb hby d3_142) ?_
      intro T224 h224 X224 e224 W224 V224
      have V224 : Ary Z h224 vA .int ((.int i0) :: (.int nw) :: (.int i2) :: (.int i1) :: rv') := V224
      have O224 := O219.wr W224 (Or.inl (List.mem_of_getElem? (i := 2) rfl))
      have f225 := E0.wr W164
      have f226 := f225.wr W170
      have f227 := f226.wr W177
      have f228 := f227.wr W219
      have f229 := f228.wr W224
      have f230 := f179.other W219 (Or.inl hoa)
      have f231 := f230.other W224 (Or.inl hob)
      have f232 := f221.other W224 (Or.inl hob)
      have f233 := Fw164.other W170 (Or.inl hoa)
      have f234 := f233.other W177 (Or.inl hob)
      have f235 := f234.other W219 (Or.inl hoa)
      have f236 := f235.other W224 (Or.inl hob)
      have f237 := V219.other W224 hne
      subst e224
      exact Ends.retV X224 hx hlk hret (hb hby d3_143) (by decide) (by decide) ⟨rfl, O224, [i0, nw, i2, i1], ⟨f229, f231, f232, f236, ⟨_, f237, by simp only [List.length_cons, List.length_nil] at *; omega⟩, ⟨_, V224, by simp only [List.length_cons, List.length_nil] at *; omega⟩, hne, hoa, hob⟩, (List.perm_iff_count.mpr fun z => by simp only [List.count_cons, List.count_nil] <;> ac_rfl), by simp only [own_ord] at * <;> omega⟩
  · refine E.ifY (q := 127) X166 hx (hb hby d3_77) (XT.i0_le_t (fun q => hq3 ((own_c_gt _ _).mp q))) ?_
    refine E.aloadN (q := 128) X166 hx (hb hby d3_127) rfl rfl ?_
    refine Ends.getF X166 hx hZ hown (host := "") (Or.inl (hw _ (List.mem_of_getElem? (i := 10) rfl))) Via.refl e166 f165 (hb hby d3_128) ?_
    intro T238 X238 e238
    refine E.iload (q := 133) X238 hx (hb hby d3_131) rfl ?_
    refine E.dloadN (q := 134) X238 hx (hb hby d3_133) rfl ?_
    refine Ends.dst X238 hx hZ e238 f167 (i := 3) rfl (by simp only [List.length_cons]; omega) (hb hby d3_134) ?_
    intro T239 h239 X239 e239 W239 V239
    have V239 : Ary Z h239 kA .double ((.double (FP.i2d (K i0))) :: (.double (FP.i2d (K i1))) :: (.double (FP.i2d (K i2))) :: (.double (FP.i2d (K nw))) :: rk') := V239
    have O239 := O164.wr W239 (Or.inl (List.mem_of_getElem? (i := 1) rfl))
    refine E.aloadN (q := 136) X239 hx (hb hby d3_135) rfl rfl ?_
    have f240 := F_v.other W164 (Or.inr (slot_ne (Or.inl (hw _ (List.mem_of_getElem? (i := 14) rfl))) (Or.inl (hw _ (List.mem_of_getElem? (i := 21) rfl))) (by decide) (t := (.array .int)) (t' := .int) (by decide) (by decide)))
    have f241 := f240.other W239 (Or.inl hoa)
    refine Ends.getF X239 hx hZ hown (host := "") (Or.inl (hw _ (List.mem_of_getElem? (i := 13) rfl))) Via.refl e239 f241 (hb hby d3_136) ?_
    intro T242 X242 e242
    refine E.iload (q := 141) X242 hx (hb hby d3_139) rfl ?_
    refine E.iloadN (q := 142) X242 hx (hb hby d3_141) rfl ?_
    have f243 := A_v'.other W164 (Ne.symm hob)
    have f244 := f243.other W239 (Ne.symm hne)
    refine Ends.ist X242 hx hZ e242 f244 (i := 3) rfl (by simp only [List.length_cons]; omega) (hb hby d3_142) ?_
    intro T245 h245 X245 e245 W245 V245
    have V245 : Ary Z h245 vA .int ((.int i0) :: (.int i1) :: (.int i2) :: (.int nw) :: rv') := V245
    have O245 := O239.wr W245 (Or.inl (List.mem_of_getElem? (i := 2) rfl))
    have f246 := E0.wr W164
    have f247 := f246.wr W239
    have f248 := f247.wr W245
    have f249 := f165.other W239 (Or.inl hoa)
    have f250 := f249.other W245 (Or.inl hob)
    have f251 := f241.other W245 (Or.inl hob)
    have f252 := Fw164.other W239 (Or.inl hoa)
    have f253 := f252.other W245 (Or.inl hob)
    have f254 := V239.other W245 hne
    subst e245
    exact Ends.retV X245 hx hlk hret (hb hby d3_143) (by decide) (by decide) ⟨rfl, O245, [i0, i1, i2, nw], ⟨f248, f250, f251, f253, ⟨_, f254, by simp only [List.length_cons, List.length_nil] at *; omega⟩, ⟨_, V245, by simp only [List.length_cons, List.length_nil] at *; omega⟩, hne, hoa, hob⟩, (List.perm_iff_count.mpr fun z => by simp only [List.count_cons, List.count_nil] <;> ac_rfl), by simp only [own_ord] at * <;> omega⟩
theorem efP4 (m : MethodId) (x0 : Addr) (x1 : UInt64) (x2 : Int32) : entryFrame m #[(.ref x0), (.double x1), (.int x2)] 5 = mkF m 0 #[.val (.ref x0), .val (.double x1), .second, .val (.int x2), .unset] [] := by first | (simp [entryFrame, mkF, argsToLocals, Value.category]; done) | rfl
set_option maxRecDepth 65536 in
set_option maxHeartbeats 40000000 in
theorem rmP4 (l : Launch) (Z : State) (a0 : Array Value) (hw : ∀ d ∈ tables_1, d.before a0 Z = true) (oa : Addr) (K : Int32 → Int32) (nw : Int32) (kA vA : Addr) (i0 i1 i2 i3 : Int32) (h0 : Heap) (H0 : HS Z h0 oa kA vA K [i0, i1, i2, i3]) (Q0 : own_ord K [i0, i1, i2, i3]) :
    Con l (⟨"com/example/hourline/hourline/engine/MinHeap", "push", "(DI)V"⟩ : MethodName) prog_36_method_3_code 5 none [] ({ frames := 0, cells := 0, slots := 0, locals := 0 } : Room) #[(.ref oa), (.double (FP.i2d (K nw))), (.int nw)] Z h0 (fun v h L => v = none ∧ Ok h0 h [oa, kA, vA] L ∧ ∃ is, HS Z h oa kA vA K is ∧ is.Perm (nw :: [i0, i1, i2, i3]) ∧ own_ord K is) := by
  refine Con.of (plainFor_of_name pn_1) ?_
  intro p e s m below meth c s₁ hx hZ hby hml hown hnm hret hlk X0 e0
  refine Ends.cast (efP4 m oa (FP.i2d (K nw)) nw) ?_
  show Ends p e below s _ _ _ s₁ (mkF m 0 #[.val (.ref oa), .val (.double (FP.i2d (K nw))), .second, .val (.int nw), .unset] [])
  have O0 := Ok.refl h0 [oa, kA, vA]
  obtain ⟨E0, F_k, F_v, F_s, ⟨rk, A_k, hrk⟩, ⟨rv, A_v, hrv⟩, hne, hoa, hob⟩ := H0
  obtain ⟨uk, rk', rfl⟩ : ∃ u r, rk = u :: r := by cases rk with | nil => exact absurd hrk (by simp) | cons u r => exact ⟨u, r, rfl⟩
  obtain ⟨uv, rv', rfl⟩ : ∃ u r, rv = u :: r := by cases rv with | nil => exact absurd hrv (by simp) | cons u r => exact ⟨u, r, rfl⟩
  have A_k' : Ary Z h0 kA .double ((.double (FP.i2d (K i0))) :: (.double (FP.i2d (K i1))) :: (.double (FP.i2d (K i2))) :: (.double (FP.i2d (K i3))) :: uk :: rk') := A_k
  have A_v' : Ary Z h0 vA .int ((.int i0) :: (.int i1) :: (.int i2) :: (.int i3) :: uv :: rv') := A_v
  have F_s' : Fld Z h0 oa "com/example/hourline/hourline/engine/MinHeap" "size" "I" (.int (4 : Int32)) := F_s
  refine E.aloadN (q := 1) X0 hx (hb hby d3_0) rfl rfl ?_
  refine Ends.getF X0 hx hZ hown (host := "") (Or.inl (hw _ (List.mem_of_getElem? (i := 20) rfl))) Via.refl e0 F_s' (hb hby d3_1) ?_
  intro T255 X255 e255
  refine E.aloadN (q := 5) X255 hx (hb hby d3_4) rfl rfl ?_
  refine Ends.getF X255 hx hZ hown (host := "") (Or.inl (hw _ (List.mem_of_getElem? (i := 10) rfl))) Via.refl e255 F_k (hb hby d3_5) ?_
  intro T256 X256 e256
  refine Ends.alen X256 hx hZ e256 A_k' (hb hby d3_8) (n := (64 : Int32)) (by rw [show List.length ((.double (FP.i2d (K i0))) :: (.double (FP.i2d (K i1))) :: (.double (FP.i2d (K i2))) :: (.double (FP.i2d (K i3))) :: uk :: rk') = 64 from by simp only [List.length_cons, List.length_nil, List.length_map] at *; omega]; rfl) ?_
  refine E.icmpY (q := 46) X256 hx (hb hby d3_9) (XT.ii_ne_t (by decide)) ?_
  refine E.aloadN (q := 47) X256 hx (hb hby d3_46) rfl rfl ?_
  refine E.dup (q := 48) X256 hx (hb hby d3_47) rfl ?_
  refine Ends.getF X256 hx hZ hown (host := "") (Or.inl (hw _ (List.mem_of_getElem? (i := 20) rfl))) Via.refl e256 F_s' (hb hby d3_48) ?_
  intro T257 X257 e257
  refine E.dupX1 (q := 52) X257 hx (hb hby d3_51) rfl rfl ?_
  refine E.iconst (q := 53) (v := (1 : Int32)) X257 hx (hb hby d3_52) rfl ?_
  refine E.iadd (q := 54) X257 hx (hb hby d3_53) ?_
  rw [show ((4 : Int32) + (1 : Int32)) = (5 : Int32) from by decide]
  refine Ends.putF X257 hx hZ hown (host := "") (Or.inl (hw _ (List.mem_of_getElem? (i := 20) rfl))) Via.refl e257 F_s' E0 (Or.inl (hw _ (List.mem_of_getElem? (i := 21) rfl))) (hw _ (List.mem_of_getElem? (i := 2) rfl)) (ty := .int) (by decide) rfl rfl (hb hby d3_54) ?_
  intro T258 h258 X258 e258 W258 Fw258
  have O258 := O0.wr W258 (Or.inl (List.mem_of_getElem? (i := 0) rfl))
  refine E.istore (q := 59) (l' := #[.val (.ref oa), .val (.double (FP.i2d (K nw))), .second, .val (.int nw), .val (.int (4 : Int32))]) X258 hx (hb hby d3_57) rfl ?_
  refine E.iload (q := 61) X258 hx (hb hby d3_59) rfl ?_
  refine E.ifN (q := 64) X258 hx (hb hby d3_61) (XT.i0_le_f (by decide)) ?_
  refine E.aloadN (q := 65) X258 hx (hb hby d3_64) rfl rfl ?_
  have f259 := F_k.other W258 (Or.inr (slot_ne (Or.inl (hw _ (List.mem_of_getElem? (i := 11) rfl))) (Or.inl (hw _ (List.mem_of_getElem? (i := 21) rfl))) (by decide) (t := (.array .double)) (t' := .int) (by decide) (by decide)))
  refine Ends.getF X258 hx hZ hown (host := "") (Or.inl (hw _ (List.mem_of_getElem? (i := 10) rfl))) Via.refl e258 f259 (hb hby d3_65) ?_
  intro T260 X260 e260
  refine E.iload (q := 70) X260 hx (hb hby d3_68) rfl ?_
  refine E.iconst (q := 71) (v := (1 : Int32)) X260 hx (hb hby d3_70) rfl ?_
  refine E.isub (q := 72) X260 hx (hb hby d3_71) ?_
  rw [show ((4 : Int32) - (1 : Int32)) = (3 : Int32) from by decide]
  refine E.iconst (q := 73) (v := (2 : Int32)) X260 hx (hb hby d3_72) rfl ?_
  refine E.idiv (q := 74) X260 hx (hb hby d3_73) (by decide) ?_
  rw [show ((3 : Int32) / (2 : Int32)) = (1 : Int32) from by decide]
  have f261 := A_k'.other W258 (Ne.symm hoa)
  refine Ends.dld X260 hx hZ e260 f261 (i := 1) rfl rfl (hb hby d3_74) ?_
  refine E.dloadN (q := 76) X260 hx (hb hby d3_75) rfl ?_
  refine E.dcmp (q := 77) X260 hx (hb hby d3_76) ?_
  rw [own_dc]
  by_cases hq5 : (K nw).toInt < (K i1).toInt
  · refine E.ifN (q := 80) X260 hx (hb hby d3_77) (XT.i0_le_f ((own_c_gt _ _).mpr hq5)) ?_
    refine E.aloadN (q := 81) X260 hx (hb hby d3_80) rfl rfl ?_
    refine Ends.getF X260 hx hZ hown (host := "") (Or.inl (hw _ (List.mem_of_getElem? (i := 10) rfl))) Via.refl e260 f259 (hb hby d3_81) ?_
    intro T262 X262 e262
    refine E.iload (q := 86) X262 hx (hb hby d3_84) rfl ?_
    refine E.aloadN (q := 87) X262 hx (hb hby d3_86) rfl rfl ?_
    refine Ends.getF X262 hx hZ hown (host := "") (Or.inl (hw _ (List.mem_of_getElem? (i := 10) rfl))) Via.refl e262 f259 (hb hby d3_87) ?_
    intro T263 X263 e263
    refine E.iload (q := 92) X263 hx (hb hby d3_90) rfl ?_
    refine E.iconst (q := 93) (v := (1 : Int32)) X263 hx (hb hby d3_92) rfl ?_
    refine E.isub (q := 94) X263 hx (hb hby d3_93) ?_
    rw [show ((4 : Int32) - (1 : Int32)) = (3 : Int32) from by decide]
    refine E.iconst (q := 95) (v := (2 : Int32)) X263 hx (hb hby d3_94) rfl ?_
    refine E.idiv (q := 96) X263 hx (hb hby d3_95) (by decide) ?_
    rw [show ((3 : Int32) / (2 : Int32)) = (1 : Int32) from by decide]
    refine Ends.dld X263 hx hZ e263 f261 (i := 1) rfl rfl (hb hby d3_96) ?_
    refine Ends.dst X263 hx hZ e263 f261 (i := 4) rfl (by simp only [List.length_cons]; omega) (hb hby d3_97) ?_
    intro T264 h264 X264 e264 W264 V264
    have V264 : Ary Z h264 kA .double ((.double (FP.i2d (K i0))) :: (.double (FP.i2d (K i1))) :: (.double (FP.i2d (K i2))) :: (.double (FP.i2d (K i3))) :: (.double (FP.i2d (K i1))) :: rk') := V264
    have O264 := O258.wr W264 (Or.inl (List.mem_of_getElem? (i := 1) rfl))
    refine E.aloadN (q := 99) X264 hx (hb hby d3_98) rfl rfl ?_
    have f265 := F_v.other W258 (Or.inr (slot_ne (Or.inl (hw _ (List.mem_of_getElem? (i := 14) rfl))) (Or.inl (hw _ (List.mem_of_getElem? (i := 21) rfl))) (by decide) (t := (.array .int)) (t' := .int) (by decide) (by decide)))
    have f266 := f265.other W264 (Or.inl hoa)
    refine Ends.getF X264 hx hZ hown (host := "") (Or.inl (hw _ (List.mem_of_getElem? (i := 13) rfl))) Via.refl e264 f266 (hb hby d3_99) ?_
    intro T267 X267 e267
    refine E.iload (q := 104) X267 hx (hb hby d3_102) rfl ?_
    refine E.aloadN (q := 105) X267 hx (hb hby d3_104) rfl rfl ?_
    refine Ends.getF X267 hx hZ hown (host := "") (Or.inl (hw _ (List.mem_of_getElem? (i := 13) rfl))) Via.refl e267 f266 (hb hby d3_105) ?_
    intro T268 X268 e268
    refine E.iload (q := 110) X268 hx (hb hby d3_108) rfl ?_
    refine E.iconst (q := 111) (v := (1 : Int32)) X268 hx (hb hby d3_110) rfl ?_
    refine E.isub (q := 112) X268 hx (hb hby d3_111) ?_
    rw [show ((4 : Int32) - (1 : Int32)) = (3 : Int32) from by decide]
    refine E.iconst (q := 113) (v := (2 : Int32)) X268 hx (hb hby d3_112) rfl ?_
    refine E.idiv (q := 114) X268 hx (hb hby d3_113) (by decide) ?_
    rw [show ((3 : Int32) / (2 : Int32)) = (1 : Int32) from by decide]
    have f269 := A_v'.other W258 (Ne.symm hob)
    have f270 := f269.other W264 (Ne.symm hne)
    refine Ends.ild X268 hx hZ e268 f270 (i := 1) rfl rfl (hb hby d3_114) ?_
    refine Ends.ist X268 hx hZ e268 f270 (i := 4) rfl (by simp only [List.length_cons]; omega) (hb hby d3_115) ?_
    intro T271 h271 X271 e271 W271 V271
    have V271 : Ary Z h271 vA .int ((.int i0) :: (.int i1) :: (.int i2) :: (.int i3) :: (.int i1) :: rv') := V271
    have O271 := O264.wr W271 (Or.inl (List.mem_of_getElem? (i := 2) rfl))
    refine E.iload (q := 118) X271 hx (hb hby d3_116) rfl ?_
    refine E.iconst (q := 119) (v := (1 : Int32)) X271 hx (hb hby d3_118) rfl ?_
    refine E.isub (q := 120) X271 hx (hb hby d3_119) ?_
    rw [show ((4 : Int32) - (1 : Int32)) = (3 : Int32) from by decide]
    refine E.iconst (q := 121) (v := (2 : Int32)) X271 hx (hb hby d3_120) rfl ?_
    refine E.idiv (q := 122) X271 hx (hb hby d3_121) (by decide) ?_
    rw [show ((3 : Int32) / (2 : Int32)) = (1 : Int32) from by decide]
    refine E.istore (q := 124) (l' := #[.val (.ref oa), .val (.double (FP.i2d (K nw))), .second, .val (.int nw), .val (.int (1 : Int32))]) X271 hx (hb hby d3_122) rfl ?_
    refine E.goto (q := 59) X271 hx (hb hby d3_124) ?_
    refine E.iload (q := 61) X271 hx (hb hby d3_59) rfl ?_
    refine E.ifN (q := 64) X271 hx (hb hby d3_61) (XT.i0_le_f (by decide)) ?_
    refine E.aloadN (q := 65) X271 hx (hb hby d3_64) rfl rfl ?_
    have f272 := f259.other W264 (Or.inl hoa)
    have f273 := f272.other W271 (Or.inl hob)
    refine Ends.getF X271 hx hZ hown (host := "") (Or.inl (hw _ (List.mem_of_getElem? (i := 10) rfl))) Via.refl e271 f273 (hb hby d3_65) ?_
    intro T274 X274 e274
    refine E.iload (q := 70) X274 hx (hb hby d3_68) rfl ?_
    refine E.iconst (q := 71) (v := (1 : Int32)) X274 hx (hb hby d3_70) rfl ?_
    refine E.isub (q := 72) X274 hx (hb hby d3_71) ?_
    rw [show ((1 : Int32) - (1 : Int32)) = (0 : Int32) from by decide]
    refine E.iconst (q := 73) (v := (2 : Int32)) X274 hx (hb hby d3_72) rfl ?_
    refine E.idiv (q := 74) X274 hx (hb hby d3_73) (by decide) ?_
    rw [show ((0 : Int32) / (2 : Int32)) = (0 : Int32) from by decide]
    have f275 := V264.other W271 hne
    refine Ends.dld X274 hx hZ e274 f275 (i := 0) rfl rfl (hb hby d3_74) ?_
    refine E.dloadN (q := 76) X274 hx (hb hby d3_75) rfl ?_
    refine E.dcmp (q := 77) X274 hx (hb hby d3_76) ?_
    rw [own_dc]
    by_cases hq6 : (K nw).toInt < (K i0).toInt
    · refine E.ifN (q := 80) X274 hx (hb hby d3_77) (XT.i0_le_f ((own_c_gt _ _).mpr hq6)) ?_
      refine E.aloadN (q := 81) X274 hx (hb hby d3_80) rfl rfl ?_
      refine Ends.getF X274 hx hZ hown (host := "") (Or.inl (hw _ (List.mem_of_getElem? (i := 10) rfl))) Via.refl e274 f273 (hb hby d3_81) ?_
      intro T276 X276 e276
      refine E.iload (q := 86) X276 hx (hb hby d3_84) rfl ?_
      refine E.aloadN (q := 87) X276 hx (hb hby d3_86) rfl rfl ?_
      refine Ends.getF X276 hx hZ hown (host := "") (Or.inl (hw _ (List.mem_of_getElem? (i := 10) rfl))) Via.refl e276 f273 (hb hby d3_87) ?_
      intro T277 X277 e277
      refine E.iload (q := 92) X277 hx (hb hby d3_90) rfl ?_
      refine E.iconst (q := 93) (v := (1 : Int32)) X277 hx (hb hby d3_92) rfl ?_
      refine E.isub (q := 94) X277 hx (hb hby d3_93) ?_
      rw [show ((1 : Int32) - (1 : Int32)) = (0 : Int32) from by decide]
      refine E.iconst (q := 95) (v := (2 : Int32)) X277 hx (hb hby d3_94) rfl ?_
      refine E.idiv (q := 96) X277 hx (hb hby d3_95) (by decide) ?_
      rw [show ((0 : Int32) / (2 : Int32)) = (0 : Int32) from by decide]
      refine Ends.dld X277 hx hZ e277 f275 (i := 0) rfl rfl (hb hby d3_96) ?_
      refine Ends.dst X277 hx hZ e277 f275 (i := 1) rfl (by simp only [List.length_cons]; omega) (hb hby d3_97) ?_
      intro T278 h278 X278 e278 W278 V278
      have V278 : Ary Z h278 kA .double ((.double (FP.i2d (K i0))) :: (.double (FP.i2d (K i0))) :: (.double (FP.i2d (K i2))) :: (.double (FP.i2d (K i3))) :: (.double (FP.i2d (K i1))) :: rk') := V278
      have O278 := O271.wr W278 (Or.inl (List.mem_of_getElem? (i := 1) rfl))
      refine E.aloadN (q := 99) X278 hx (hb hby d3_98) rfl rfl ?_
      have f279 := f266.other W271 (Or.inl hob)
      have f280 := f279.other W278 (Or.inl hoa)
      refine Ends.getF X278 hx hZ hown (host := "") (Or.inl (hw _ (List.mem_of_getElem? (i := 13) rfl))) Via.refl e278 f280 (hb hby d3_99) ?_
      intro T281 X281 e281
      refine E.iload (q := 104) X281 hx (hb hby d3_102) rfl ?_
      refine E.aloadN (q := 105) X281 hx (hb hby d3_104) rfl rfl ?_
      refine Ends.getF X281 hx hZ hown (host := "") (Or.inl (hw _ (List.mem_of_getElem? (i := 13) rfl))) Via.refl e281 f280 (hb hby d3_105) ?_
      intro T282 X282 e282
      refine E.iload (q := 110) X282 hx (hb hby d3_108) rfl ?_
      refine E.iconst (q := 111) (v := (1 : Int32)) X282 hx (hb hby d3_110) rfl ?_
      refine E.isub (q := 112) X282 hx (hb hby d3_111) ?_
      rw [show ((1 : Int32) - (1 : Int32)) = (0 : Int32) from by decide]
      refine E.iconst (q := 113) (v := (2 : Int32)) X282 hx (hb hby d3_112) rfl ?_
      refine E.idiv (q := 114) X282 hx (hb hby d3_113) (by decide) ?_
      rw [show ((0 : Int32) / (2 : Int32)) = (0 : Int32) from by decide]
      have f283 := V271.other W278 (Ne.symm hne)
      refine Ends.ild X282 hx hZ e282 f283 (i := 0) rfl rfl (hb hby d3_114) ?_
      refine Ends.ist X282 hx hZ e282 f283 (i := 1) rfl (by simp only [List.length_cons]; omega) (hb hby d3_115) ?_
      intro T284 h284 X284 e284 W284 V284
      have V284 : Ary Z h284 vA .int ((.int i0) :: (.int i0) :: (.int i2) :: (.int i3) :: (.int i1) :: rv') := V284
      have O284 := O278.wr W284 (Or.inl (List.mem_of_getElem? (i := 2) rfl))
      refine E.iload (q := 118) X284 hx (hb hby d3_116) rfl ?_
      refine E.iconst (q := 119) (v := (1 : Int32)) X284 hx (hb hby d3_118) rfl ?_
      refine E.isub (q := 120) X284 hx (hb hby d3_119) ?_
      rw [show ((1 : Int32) - (1 : Int32)) = (0 : Int32) from by decide]
      refine E.iconst (q := 121) (v := (2 : Int32)) X284 hx (hb hby d3_120) rfl ?_
      refine E.idiv (q := 122) X284 hx (hb hby d3_121) (by decide) ?_
      rw [show ((0 : Int32) / (2 : Int32)) = (0 : Int32) from by decide]
      refine E.istore (q := 124) (l' := #[.val (.ref oa), .val (.double (FP.i2d (K nw))), .second, .val (.int nw), .val (.int (0 : Int32))]) X284 hx (hb hby d3_122) rfl ?_
      refine E.goto (q := 59) X284 hx (hb hby d3_124) ?_
      refine E.iload (q := 61) X284 hx (hb hby d3_59) rfl ?_
      refine E.ifY (q := 127) X284 hx (hb hby d3_61) (XT.i0_le_t (by decide)) ?_
      refine E.aloadN (q := 128) X284 hx (hb hby d3_127) rfl rfl ?_
      have f285 := f273.other W278 (Or.inl hoa)
      have f286 := f285.other W284 (Or.inl hob)
      refine Ends.getF X284 hx hZ hown (host := "") (Or.inl (hw _ (List.mem_of_getElem? (i := 10) rfl))) Via.refl e284 f286 (hb hby d3_128) ?_
      intro T287 X287 e287
      refine E.iload (q := 133) X287 hx (hb hby d3_131) rfl ?_
      refine E.dloadN (q := 134) X287 hx (hb hby d3_133) rfl ?_
      have f288 := V278.other W284 hne
      refine Ends.dst X287 hx hZ e287 f288 (i := 0) rfl (by simp only [List.length_cons]; omega) (hb hby d3_134) ?_
      intro T289 h289 X289 e289 W289 V289
      have V289 : Ary Z h289 kA .double ((.double (FP.i2d (K nw))) :: (.double (FP.i2d (K i0))) :: (.double (FP.i2d (K i2))) :: (.double (FP.i2d (K i3))) :: (.double (FP.i2d (K i1))) :: rk') := V289
      have O289 := O284.wr W289 (Or.inl (List.mem_of_getElem? (i := 1) rfl))
      refine E.aloadN (q := 136) X289 hx (hb hby d3_135) rfl rfl ?_
      have f290 := f280.other W284 (Or.inl hob)
      have f291 := f290.other W289 (Or.inl hoa)
      refine Ends.getF X289 hx hZ hown (host := "") (Or.inl (hw _ (List.mem_of_getElem? (i := 13) rfl))) Via.refl e289 f291 (hb hby d3_136) ?_
      intro T292 X292 e292
      refine E.iload (q := 141) X292 hx (hb hby d3_139) rfl ?_
      refine E.iloadN (q := 142) X292 hx (hb hby d3_141) rfl ?_
      have f293 := V284.other W289 (Ne.symm hne)
      refine Ends.ist X292 hx hZ e292 f293 (i := 0) rfl (by simp only [List.length_cons]; omega) (hb hby d3_142) ?_
      intro T294 h294 X294 e294 W294 V294
      have V294 : Ary Z h294 vA .int ((.int nw) :: (.int i0) :: (.int i2) :: (.int i3) :: (.int i1) :: rv') := V294
      have O294 := O289.wr W294 (Or.inl (List.mem_of_getElem? (i := 2) rfl))
      have f295 := E0.wr W258
      have f296 := f295.wr W264
      have f297 := f296.wr W271
      have f298 := f297.wr W278
      have f299 := f298.wr W284
      have f300 := f299.wr W289
      have f301 := f300.wr W294
      have f302 := f286.other W289 (Or.inl hoa)
      have f303 := f302.other W294 (Or.inl hob)
      have f304 := f291.other W294 (Or.inl hob)
      have f305 := Fw258.other W264 (Or.inl hoa)
      have f306 := f305.other W271 (Or.inl hob)
      have f307 := f306.other W278 (Or.inl hoa)
      have f308 := f307.other W284 (Or.inl hob)
      have f309 := f308.other W289 (Or.inl hoa)
      have f310 := f309.other W294 (Or.inl hob)
      have f311 := V289.other W294 hne
      subst e294
      exact Ends.retV X294 hx hlk hret (hb hby d3_143) (by decide) (by decide) ⟨rfl, O294, [nw, i0, i2, i3, i1], ⟨f301, f303, f304, f310, ⟨_, f311, by simp only [List.length_cons, List.length_nil] at *; omega⟩, ⟨_, V294, by simp only [List.length_cons, List.length_nil] at *; omega⟩, hne, hoa, hob⟩, (List.perm_iff_count.mpr fun z => by simp only [List.count_cons, List.count_nil] <;> ac_rfl), by simp only [own_ord] at * <;> omega⟩
    · refine E.ifY (q := 127) X274 hx (hb hby d3_77) (XT.i0_le_t (fun q => hq6 ((own_c_gt _ _).mp q))) ?_
      refine E.aloadN (q := 128) X274 hx (hb hby d3_127) rfl rfl ?_
      refine Ends.getF X274 hx hZ hown (host := "") (Or.inl (hw _ (List.mem_of_getElem? (i := 10) rfl))) Via.refl e274 f273 (hb hby d3_128) ?_
      intro T312 X312 e312
      refine E.iload (q := 133) X312 hx (hb hby d3_131) rfl ?_
      refine E.dloadN (q := 134) X312 hx (hb hby d3_133) rfl ?_
      refine Ends.dst X312 hx hZ e312 f275 (i := 1) rfl (by simp only [List.length_cons]; omega) (hb hby d3_134) ?_
      intro T313 h313 X313 e313 W313 V313
      have V313 : Ary Z h313 kA .double ((.double (FP.i2d (K i0))) :: (.double (FP.i2d (K nw))) :: (.double (FP.i2d (K i2))) :: (.double (FP.i2d (K i3))) :: (.double (FP.i2d (K i1))) :: rk') := V313
      have O313 := O271.wr W313 (Or.inl (List.mem_of_getElem? (i := 1) rfl))
      refine E.aloadN (q := 136) X313 hx (hb hby d3_135) rfl rfl ?_
      have f314 := f266.other W271 (Or.inl hob)
      have f315 := f314.other W313 (Or.inl hoa)
      refine Ends.getF X313 hx hZ hown (host := "") (Or.inl (hw _ (List.mem_of_getElem? (i := 13) rfl))) Via.refl e313 f315 (hb hby d3_136) ?_
      intro T316 X316 e316
      refine E.iload (q := 141) X316 hx (hb hby d3_139) rfl ?_
      refine E.iloadN (q := 142) X316 hx (hb hby d3_141) rfl ?_
      have f317 := V271.other W313 (Ne.symm hne)
      refine Ends.ist X316 hx hZ e316 f317 (i := 1) rfl (by simp only [List.length_cons]; omega) (hb hby d3_142) ?_
      intro T318 h318 X318 e318 W318 V318
      have V318 : Ary Z h318 vA .int ((.int i0) :: (.int nw) :: (.int i2) :: (.int i3) :: (.int i1) :: rv') := V318
      have O318 := O313.wr W318 (Or.inl (List.mem_of_getElem? (i := 2) rfl))
      have f319 := E0.wr W258
      have f320 := f319.wr W264
      have f321 := f320.wr W271
      have f322 := f321.wr W313
      have f323 := f322.wr W318
      have f324 := f273.other W313 (Or.inl hoa)
      have f325 := f324.other W318 (Or.inl hob)
      have f326 := f315.other W318 (Or.inl hob)
      have f327 := Fw258.other W264 (Or.inl hoa)
      have f328 := f327.other W271 (Or.inl hob)
      have f329 := f328.other W313 (Or.inl hoa)
      have f330 := f329.other W318 (Or.inl hob)
      have f331 := V313.other W318 hne
      subst e318
      exact Ends.retV X318 hx hlk hret (hb hby d3_143) (by decide) (by decide) ⟨rfl, O318, [i0, nw, i2, i3, i1], ⟨f323, f325, f326, f330, ⟨_, f331, by simp only [List.length_cons, List.length_nil] at *; omega⟩, ⟨_, V318, by simp only [List.length_cons, List.length_nil] at *; omega⟩, hne, hoa, hob⟩, (List.perm_iff_count.mpr fun z => by simp only [List.count_cons, List.count_nil] <;> ac_rfl), by simp only [own_ord] at * <;> omega⟩
  · refine E.ifY (q := 127) X260 hx (hb hby d3_77) (XT.i0_le_t (fun q => hq5 ((own_c_gt _ _).mp q))) ?_
    refine E.aloadN (q := 128) X260 hx (hb hby d3_127) rfl rfl ?_
    refine Ends.getF X260 hx hZ hown (host := "") (Or.inl (hw _ (List.mem_of_getElem? (i := 10) rfl))) Via.refl e260 f259 (hb hby d3_128) ?_
    intro T332 X332 e332
    refine E.iload (q := 133) X332 hx (hb hby d3_131) rfl ?_
    refine E.dloadN (q := 134) X332 hx (hb hby d3_133) rfl ?_
    refine Ends.dst X332 hx hZ e332 f261 (i := 4) rfl (by simp only [List.length_cons]; omega) (hb hby d3_134) ?_
    intro T333 h333 X333 e333 W333 V333
    have V333 : Ary Z h333 kA .double ((.double (FP.i2d (K i0))) :: (.double (FP.i2d (K i1))) :: (.double (FP.i2d (K i2))) :: (.double (FP.i2d (K i3))) :: (.double (FP.i2d (K nw))) :: rk') := V333
    have O333 := O258.wr W333 (Or.inl (List.mem_of_getElem? (i := 1) rfl))
    refine E.aloadN (q := 136) X333 hx (hb hby d3_135) rfl rfl ?_
    have f334 := F_v.other W258 (Or.inr (slot_ne (Or.inl (hw _ (List.mem_of_getElem? (i := 14) rfl))) (Or.inl (hw _ (List.mem_of_getElem? (i := 21) rfl))) (by decide) (t := (.array .int)) (t' := .int) (by decide) (by decide)))
    have f335 := f334.other W333 (Or.inl hoa)
    refine Ends.getF X333 hx hZ hown (host := "") (Or.inl (hw _ (List.mem_of_getElem? (i := 13) rfl))) Via.refl e333 f335 (hb hby d3_136) ?_
    intro T336 X336 e336
    refine E.iload (q := 141) X336 hx (hb hby d3_139) rfl ?_
    refine E.iloadN (q := 142) X336 hx (hb hby d3_141) rfl ?_
    have f337 := A_v'.other W258 (Ne.symm hob)
    have f338 := f337.other W333 (Ne.symm hne)
    refine Ends.ist X336 hx hZ e336 f338 (i := 4) rfl (by simp only [List.length_cons]; omega) (hb hby d3_142) ?_
    intro T339 h339 X339 e339 W339 V339
    have V339 : Ary Z h339 vA .int ((.int i0) :: (.int i1) :: (.int i2) :: (.int i3) :: (.int nw) :: rv') := V339
    have O339 := O333.wr W339 (Or.inl (List.mem_of_getElem? (i := 2) rfl))
    have f340 := E0.wr W258
    have f341 := f340.wr W333
    have f342 := f341.wr W339
    have f343 := f259.other W333 (Or.inl hoa)
    have f344 := f343.other W339 (Or.inl hob)
    have f345 := f335.other W339 (Or.inl hob)
    have f346 := Fw258.other W333 (Or.inl hoa)
    have f347 := f346.other W339 (Or.inl hob)
    have f348 := V333.other W339 hne
    subst e339
    exact Ends.retV X339 hx hlk hret (hb hby d3_143) (by decide) (by decide) ⟨rfl, O339, [i0, i1, i2, i3, nw], ⟨f342, f344, f345, f347, ⟨_, f348, by simp only [List.length_cons, List.length_nil] at *; omega⟩, ⟨_, V339, by simp only [List.length_cons, List.length_nil] at *; omega⟩, hne, hoa, hob⟩, (List.perm_iff_count.mpr fun z => by simp only [List.count_cons, List.count_nil] <;> ac_rfl), by simp only [own_ord] at * <;> omega⟩
theorem efO1 (m : MethodId) (x0 : Addr) : entryFrame m #[(.ref x0)] 7 = mkF m 0 #[.val (.ref x0), .unset, .unset, .unset, .unset, .unset, .unset] [] := by first | (simp [entryFrame, mkF, argsToLocals, Value.category]; done) | rfl
set_option maxRecDepth 65536 in
set_option maxHeartbeats 40000000 in
theorem rmO1 (l : Launch) (Z : State) (a0 : Array Value) (hw : ∀ d ∈ tables_1, d.before a0 Z = true) (oa : Addr) (K : Int32 → Int32) (kA vA : Addr) (i0 : Int32) (h0 : Heap) (H0 : HS Z h0 oa kA vA K [i0]) (Q0 : own_ord K [i0]) :
    Con l (⟨"com/example/hourline/hourline/engine/MinHeap", "pop", "()I"⟩ : MethodName) prog_36_method_5_code 7 (some .int) [] ({ frames := 0, cells := 0, slots := 0, locals := 0 } : Room) #[(.ref oa)] Z h0 (fun v h L => v = some (.int i0) ∧ Ok h0 h [oa, kA, vA] L ∧ ∃ is, HS Z h oa kA vA K is ∧ (i0 :: is).Perm [i0] ∧ own_ord K is ∧ ∀ j ∈ is, (K i0).toInt ≤ (K j).toInt) := by
  refine Con.of (plainFor_of_name pn_1) ?_
  intro p e s m below meth c s₁ hx hZ hby hml hown hnm hret hlk X0 e0
  refine Ends.cast (efO1 m oa) ?_
  show Ends p e below s _ _ _ s₁ (mkF m 0 #[.val (.ref oa), .unset, .unset, .unset, .unset, .unset, .unset] [])
  have O0 := Ok.refl h0 [oa, kA, vA]
  obtain ⟨E0, F_k, F_v, F_s, ⟨rk, A_k, hrk⟩, ⟨rv, A_v, hrv⟩, hne, hoa, hob⟩ := H0
  have A_k' : Ary Z h0 kA .double ((.double (FP.i2d (K i0))) :: rk) := A_k
  have A_v' : Ary Z h0 vA .int ((.int i0) :: rv) := A_v
  have F_s' : Fld Z h0 oa "com/example/hourline/hourline/engine/MinHeap" "size" "I" (.int (1 : Int32)) := F_s
  refine E.aloadN (q := 1) X0 hx (hb hby d4_0) rfl rfl ?_
  refine Ends.getF X0 hx hZ hown (host := "") (Or.inl (hw _ (List.mem_of_getElem? (i := 13) rfl))) Via.refl e0 F_v (hb hby d4_1) ?_
  intro T349 X349 e349
  refine E.iconst (q := 5) (v := (0 : Int32)) X349 hx (hb hby d4_4) rfl ?_
  refine Ends.ild X349 hx hZ e349 A_v' (i := 0) rfl rfl (hb hby d4_5) ?_
  refine E.istoreN (q := 7) (l' := #[.val (.ref oa), .val (.int i0), .unset, .unset, .unset, .unset, .unset]) X349 hx (hb hby d4_6) rfl ?_
  refine E.aloadN (q := 8) X349 hx (hb hby d4_7) rfl rfl ?_
  refine Ends.getF X349 hx hZ hown (host := "") (Or.inl (hw _ (List.mem_of_getElem? (i := 10) rfl))) Via.refl e349 F_k (hb hby d4_8) ?_
  intro T350 X350 e350
  refine E.aloadN (q := 12) X350 hx (hb hby d4_11) rfl rfl ?_
  refine E.dup (q := 13) X350 hx (hb hby d4_12) rfl ?_
  refine Ends.getF X350 hx hZ hown (host := "") (Or.inl (hw _ (List.mem_of_getElem? (i := 20) rfl))) Via.refl e350 F_s' (hb hby d4_13) ?_
  intro T351 X351 e351
  refine E.iconst (q := 17) (v := (1 : Int32)) X351 hx (hb hby d4_16) rfl ?_
  refine E.isub (q := 18) X351 hx (hb hby d4_17) ?_
  rw [show ((1 : Int32) - (1 : Int32)) = (0 : Int32) from by decide]
  refine E.dupX1 (q := 19) X351 hx (hb hby d4_18) rfl rfl ?_
  refine Ends.putF X351 hx hZ hown (host := "") (Or.inl (hw _ (List.mem_of_getElem? (i := 20) rfl))) Via.refl e351 F_s' E0 (Or.inl (hw _ (List.mem_of_getElem? (i := 21) rfl))) (hw _ (List.mem_of_getElem? (i := 2) rfl)) (ty := .int) (by decide) rfl rfl (hb hby d4_19) ?_
  intro T352 h352 X352 e352 W352 Fw352
  have O352 := O0.wr W352 (Or.inl (List.mem_of_getElem? (i := 0) rfl))
  have f353 := A_k'.other W352 (Ne.symm hoa)
  refine Ends.dld X352 hx hZ e352 f353 (i := 0) rfl rfl (hb hby d4_22) ?_
  refine E.dstoreN (q := 24) (l' := #[.val (.ref oa), .val (.int i0), .val (.double (FP.i2d (K i0))), .second, .unset, .unset, .unset]) X352 hx (hb hby d4_23) rfl ?_
  refine E.aloadN (q := 25) X352 hx (hb hby d4_24) rfl rfl ?_
  have f354 := F_v.other W352 (Or.inr (slot_ne (Or.inl (hw _ (List.mem_of_getElem? (i := 14) rfl))) (Or.inl (hw _ (List.mem_of_getElem? (i := 21) rfl))) (by decide) (t := (.array .int)) (t' := .int) (by decide) (by decide)))
  refine Ends.getF X352 hx hZ hown (host := "") (Or.inl (hw _ (List.mem_of_getElem? (i := 13) rfl))) Via.refl e352 f354 (hb hby d4_25) ?_
  intro T355 X355 e355
  refine E.aloadN (q := 29) X355 hx (hb hby d4_28) rfl rfl ?_
  refine Ends.getF X355 hx hZ hown (host := "") (Or.inl (hw _ (List.mem_of_getElem? (i := 20) rfl))) Via.refl e355 Fw352 (hb hby d4_29) ?_
  intro T356 X356 e356
  have f357 := A_v'.other W352 (Ne.symm hob)
  refine Ends.ild X356 hx hZ e356 f357 (i := 0) rfl rfl (hb hby d4_32) ?_
  refine E.istore (q := 35) (l' := #[.val (.ref oa), .val (.int i0), .val (.double (FP.i2d (K i0))), .second, .val (.int i0), .unset, .unset]) X356 hx (hb hby d4_33) rfl ?_
  refine E.iconst (q := 36) (v := (0 : Int32)) X356 hx (hb hby d4_35) rfl ?_
  refine E.istore (q := 38) (l' := #[.val (.ref oa), .val (.int i0), .val (.double (FP.i2d (K i0))), .second, .val (.int i0), .val (.int (0 : Int32)), .unset]) X356 hx (hb hby d4_36) rfl ?_
  refine E.iconst (q := 39) (v := (2 : Int32)) X356 hx (hb hby d4_38) rfl ?_
  refine E.iload (q := 41) X356 hx (hb hby d4_39) rfl ?_
  refine E.imul (q := 42) X356 hx (hb hby d4_41) ?_
  rw [show ((2 : Int32) * (0 : Int32)) = (0 : Int32) from by decide]
  refine E.iconst (q := 43) (v := (1 : Int32)) X356 hx (hb hby d4_42) rfl ?_
  refine E.iadd (q := 44) X356 hx (hb hby d4_43) ?_
  rw [show ((0 : Int32) + (1 : Int32)) = (1 : Int32) from by decide]
  refine E.aloadN (q := 45) X356 hx (hb hby d4_44) rfl rfl ?_
  refine Ends.getF X356 hx hZ hown (host := "") (Or.inl (hw _ (List.mem_of_getElem? (i := 20) rfl))) Via.refl e356 Fw352 (hb hby d4_45) ?_
  intro T358 X358 e358
  refine E.icmpY (q := 143) X358 hx (hb hby d4_48) (XT.ii_ge_t (by decide)) ?_
  refine E.aloadN (q := 144) X358 hx (hb hby d4_143) rfl rfl ?_
  have f359 := F_k.other W352 (Or.inr (slot_ne (Or.inl (hw _ (List.mem_of_getElem? (i := 11) rfl))) (Or.inl (hw _ (List.mem_of_getElem? (i := 21) rfl))) (by decide) (t := (.array .double)) (t' := .int) (by decide) (by decide)))
  refine Ends.getF X358 hx hZ hown (host := "") (Or.inl (hw _ (List.mem_of_getElem? (i := 10) rfl))) Via.refl e358 f359 (hb hby d4_144) ?_
  intro T360 X360 e360
  refine E.iload (q := 149) X360 hx (hb hby d4_147) rfl ?_
  refine E.dloadN (q := 150) X360 hx (hb hby d4_149) rfl ?_
  refine Ends.dst X360 hx hZ e360 f353 (i := 0) rfl (by simp only [List.length_cons]; omega) (hb hby d4_150) ?_
  intro T361 h361 X361 e361 W361 V361
  have V361 : Ary Z h361 kA .double ((.double (FP.i2d (K i0))) :: rk) := V361
  have O361 := O352.wr W361 (Or.inl (List.mem_of_getElem? (i := 1) rfl))
  refine E.aloadN (q := 152) X361 hx (hb hby d4_151) rfl rfl ?_
  have f362 := f354.other W361 (Or.inl hoa)
  refine Ends.getF X361 hx hZ hown (host := "") (Or.inl (hw _ (List.mem_of_getElem? (i := 13) rfl))) Via.refl e361 f362 (hb hby d4_152) ?_
  intro T363 X363 e363
  refine E.iload (q := 157) X363 hx (hb hby d4_155) rfl ?_
  refine E.iload (q := 159) X363 hx (hb hby d4_157) rfl ?_
  have f364 := f357.other W361 (Ne.symm hne)
  refine Ends.ist X363 hx hZ e363 f364 (i := 0) rfl (by simp only [List.length_cons]; omega) (hb hby d4_159) ?_
  intro T365 h365 X365 e365 W365 V365
  have V365 : Ary Z h365 vA .int ((.int i0) :: rv) := V365
  have O365 := O361.wr W365 (Or.inl (List.mem_of_getElem? (i := 2) rfl))
  refine E.iloadN (q := 161) X365 hx (hb hby d4_160) rfl ?_
  have f366 := E0.wr W352
  have f367 := f366.wr W361
  have f368 := f367.wr W365
  have f369 := f359.other W361 (Or.inl hoa)
  have f370 := f369.other W365 (Or.inl hob)
  have f371 := f362.other W365 (Or.inl hob)
  have f372 := Fw352.other W361 (Or.inl hoa)
  have f373 := f372.other W365 (Or.inl hob)
  have f374 := V361.other W365 hne
  subst e365
  exact Ends.retI X365 hx hlk hret (hb hby d4_161) (by decide) (by decide) ⟨rfl, O365, [], ⟨f368, f370, f371, f373, ⟨_ :: _, f374, by simp only [List.length_cons, List.length_nil] at *; omega⟩, ⟨_ :: _, V365, by simp only [List.length_cons, List.length_nil] at *; omega⟩, hne, hoa, hob⟩, (List.perm_iff_count.mpr fun z => by simp only [List.count_cons, List.count_nil] <;> ac_rfl), by simp only [own_ord] at * <;> omega, by simp only [own_ord] at Q0; simp only [List.mem_cons, List.not_mem_nil, or_false, false_or]; intro j hj; exact hj.elim⟩
theorem efO2 (m : MethodId) (x0 : Addr) : entryFrame m #[(.ref x0)] 7 = mkF m 0 #[.val (.ref x0), .unset, .unset, .unset, .unset, .unset, .unset] [] := by first | (simp [entryFrame, mkF, argsToLocals, Value.category]; done) | rfl
set_option maxRecDepth 65536 in
set_option maxHeartbeats 40000000 in
theorem rmO2 (l : Launch) (Z : State) (a0 : Array Value) (hw : ∀ d ∈ tables_1, d.before a0 Z = true) (oa : Addr) (K : Int32 → Int32) (kA vA : Addr) (i0 i1 : Int32) (h0 : Heap) (H0 : HS Z h0 oa kA vA K [i0, i1]) (Q0 : own_ord K [i0, i1]) :
    Con l (⟨"com/example/hourline/hourline/engine/MinHeap", "pop", "()I"⟩ : MethodName) prog_36_method_5_code 7 (some .int) [] ({ frames := 0, cells := 0, slots := 0, locals := 0 } : Room) #[(.ref oa)] Z h0 (fun v h L => v = some (.int i0) ∧ Ok h0 h [oa, kA, vA] L ∧ ∃ is, HS Z h oa kA vA K is ∧ (i0 :: is).Perm [i0, i1] ∧ own_ord K is ∧ ∀ j ∈ is, (K i0).toInt ≤ (K j).toInt) := by
  refine Con.of (plainFor_of_name pn_1) ?_
  intro p e s m below meth c s₁ hx hZ hby hml hown hnm hret hlk X0 e0
  refine Ends.cast (efO2 m oa) ?_
  show Ends p e below s _ _ _ s₁ (mkF m 0 #[.val (.ref oa), .unset, .unset, .unset, .unset, .unset, .unset] [])
  have O0 := Ok.refl h0 [oa, kA, vA]
  obtain ⟨E0, F_k, F_v, F_s, ⟨rk, A_k, hrk⟩, ⟨rv, A_v, hrv⟩, hne, hoa, hob⟩ := H0
  have A_k' : Ary Z h0 kA .double ((.double (FP.i2d (K i0))) :: (.double (FP.i2d (K i1))) :: rk) := A_k
  have A_v' : Ary Z h0 vA .int ((.int i0) :: (.int i1) :: rv) := A_v
  have F_s' : Fld Z h0 oa "com/example/hourline/hourline/engine/MinHeap" "size" "I" (.int (2 : Int32)) := F_s
  refine E.aloadN (q := 1) X0 hx (hb hby d4_0) rfl rfl ?_
  refine Ends.getF X0 hx hZ hown (host := "") (Or.inl (hw _ (List.mem_of_getElem? (i := 13) rfl))) Via.refl e0 F_v (hb hby d4_1) ?_
  intro T375 X375 e375
  refine E.iconst (q := 5) (v := (0 : Int32)) X375 hx (hb hby d4_4) rfl ?_
  refine Ends.ild X375 hx hZ e375 A_v' (i := 0) rfl rfl (hb hby d4_5) ?_
  refine E.istoreN (q := 7) (l' := #[.val (.ref oa), .val (.int i0), .unset, .unset, .unset, .unset, .unset]) X375 hx (hb hby d4_6) rfl ?_
  refine E.aloadN (q := 8) X375 hx (hb hby d4_7) rfl rfl ?_
  refine Ends.getF X375 hx hZ hown (host := "") (Or.inl (hw _ (List.mem_of_getElem? (i := 10) rfl))) Via.refl e375 F_k (hb hby d4_8) ?_
  intro T376 X376 e376
  refine E.aloadN (q := 12) X376 hx (hb hby d4_11) rfl rfl ?_
  refine E.dup (q := 13) X376 hx (hb hby d4_12) rfl ?_
  refine Ends.getF X376 hx hZ hown (host := "") (Or.inl (hw _ (List.mem_of_getElem? (i := 20) rfl))) Via.refl e376 F_s' (hb hby d4_13) ?_
  intro T377 X377 e377
  refine E.iconst (q := 17) (v := (1 : Int32)) X377 hx (hb hby d4_16) rfl ?_
  refine E.isub (q := 18) X377 hx (hb hby d4_17) ?_
  rw [show ((2 : Int32) - (1 : Int32)) = (1 : Int32) from by decide]
  refine E.dupX1 (q := 19) X377 hx (hb hby d4_18) rfl rfl ?_
  refine Ends.putF X377 hx hZ hown (host := "") (Or.inl (hw _ (List.mem_of_getElem? (i := 20) rfl))) Via.refl e377 F_s' E0 (Or.inl (hw _ (List.mem_of_getElem? (i := 21) rfl))) (hw _ (List.mem_of_getElem? (i := 2) rfl)) (ty := .int) (by decide) rfl rfl (hb hby d4_19) ?_
  intro T378 h378 X378 e378 W378 Fw378
  have O378 := O0.wr W378 (Or.inl (List.mem_of_getElem? (i := 0) rfl))
  have f379 := A_k'.other W378 (Ne.symm hoa)
  refine Ends.dld X378 hx hZ e378 f379 (i := 1) rfl rfl (hb hby d4_22) ?_
  refine E.dstoreN (q := 24) (l' := #[.val (.ref oa), .val (.int i0), .val (.double (FP.i2d (K i1))), .second, .unset, .unset, .unset]) X378 hx (hb hby d4_23) rfl ?_
  refine E.aloadN (q := 25) X378 hx (hb hby d4_24) rfl rfl ?_
  have f380 := F_v.other W378 (Or.inr (slot_ne (Or.inl (hw _ (List.mem_of_getElem? (i := 14) rfl))) (Or.inl (hw _ (List.mem_of_getElem? (i := 21) rfl))) (by decide) (t := (.array .int)) (t' := .int) (by decide) (by decide)))
  refine Ends.getF X378 hx hZ hown (host := "") (Or.inl (hw _ (List.mem_of_getElem? (i := 13) rfl))) Via.refl e378 f380 (hb hby d4_25) ?_
  intro T381 X381 e381
  refine E.aloadN (q := 29) X381 hx (hb hby d4_28) rfl rfl ?_
  refine Ends.getF X381 hx hZ hown (host := "") (Or.inl (hw _ (List.mem_of_getElem? (i := 20) rfl))) Via.refl e381 Fw378 (hb hby d4_29) ?_
  intro T382 X382 e382
  have f383 := A_v'.other W378 (Ne.symm hob)
  refine Ends.ild X382 hx hZ e382 f383 (i := 1) rfl rfl (hb hby d4_32) ?_
  refine E.istore (q := 35) (l' := #[.val (.ref oa), .val (.int i0), .val (.double (FP.i2d (K i1))), .second, .val (.int i1), .unset, .unset]) X382 hx (hb hby d4_33) rfl ?_
  refine E.iconst (q := 36) (v := (0 : Int32)) X382 hx (hb hby d4_35) rfl ?_
  refine E.istore (q := 38) (l' := #[.val (.ref oa), .val (.int i0), .val (.double (FP.i2d (K i1))), .second, .val (.int i1), .val (.int (0 : Int32)), .unset]) X382 hx (hb hby d4_36) rfl ?_
  refine E.iconst (q := 39) (v := (2 : Int32)) X382 hx (hb hby d4_38) rfl ?_
  refine E.iload (q := 41) X382 hx (hb hby d4_39) rfl ?_
  refine E.imul (q := 42) X382 hx (hb hby d4_41) ?_
  rw [show ((2 : Int32) * (0 : Int32)) = (0 : Int32) from by decide]
  refine E.iconst (q := 43) (v := (1 : Int32)) X382 hx (hb hby d4_42) rfl ?_
  refine E.iadd (q := 44) X382 hx (hb hby d4_43) ?_
  rw [show ((0 : Int32) + (1 : Int32)) = (1 : Int32) from by decide]
  refine E.aloadN (q := 45) X382 hx (hb hby d4_44) rfl rfl ?_
  refine Ends.getF X382 hx hZ hown (host := "") (Or.inl (hw _ (List.mem_of_getElem? (i := 20) rfl))) Via.refl e382 Fw378 (hb hby d4_45) ?_
  intro T384 X384 e384
  refine E.icmpY (q := 143) X384 hx (hb hby d4_48) (XT.ii_ge_t (by decide)) ?_
  refine E.aloadN (q := 144) X384 hx (hb hby d4_143) rfl rfl ?_
  have f385 := F_k.other W378 (Or.inr (slot_ne (Or.inl (hw _ (List.mem_of_getElem? (i := 11) rfl))) (Or.inl (hw _ (List.mem_of_getElem? (i := 21) rfl))) (by decide) (t := (.array .double)) (t' := .int) (by decide) (by decide)))
  refine Ends.getF X384 hx hZ hown (host := "") (Or.inl (hw _ (List.mem_of_getElem? (i := 10) rfl))) Via.refl e384 f385 (hb hby d4_144) ?_
  intro T386 X386 e386
  refine E.iload (q := 149) X386 hx (hb hby d4_147) rfl ?_
  refine E.dloadN (q := 150) X386 hx (hb hby d4_149) rfl ?_
  refine Ends.dst X386 hx hZ e386 f379 (i := 0) rfl (by simp only [List.length_cons]; omega) (hb hby d4_150) ?_
  intro T387 h387 X387 e387 W387 V387
  have V387 : Ary Z h387 kA .double ((.double (FP.i2d (K i1))) :: (.double (FP.i2d (K i1))) :: rk) := V387
  have O387 := O378.wr W387 (Or.inl (List.mem_of_getElem? (i := 1) rfl))
  refine E.aloadN (q := 152) X387 hx (hb hby d4_151) rfl rfl ?_
  have f388 := f380.other W387 (Or.inl hoa)
  refine Ends.getF X387 hx hZ hown (host := "") (Or.inl (hw _ (List.mem_of_getElem? (i := 13) rfl))) Via.refl e387 f388 (hb hby d4_152) ?_
  intro T389 X389 e389
  refine E.iload (q := 157) X389 hx (hb hby d4_155) rfl ?_
  refine E.iload (q := 159) X389 hx (hb hby d4_157) rfl ?_
  have f390 := f383.other W387 (Ne.symm hne)
  refine Ends.ist X389 hx hZ e389 f390 (i := 0) rfl (by simp only [List.length_cons]; omega) (hb hby d4_159) ?_
  intro T391 h391 X391 e391 W391 V391
  have V391 : Ary Z h391 vA .int ((.int i1) :: (.int i1) :: rv) := V391
  have O391 := O387.wr W391 (Or.inl (List.mem_of_getElem? (i := 2) rfl))
  refine E.iloadN (q := 161) X391 hx (hb hby d4_160) rfl ?_
  have f392 := E0.wr W378
  have f393 := f392.wr W387
  have f394 := f393.wr W391
  have f395 := f385.other W387 (Or.inl hoa)
  have f396 := f395.other W391 (Or.inl hob)
  have f397 := f388.other W391 (Or.inl hob)
  have f398 := Fw378.other W387 (Or.inl hoa)
  have f399 := f398.other W391 (Or.inl hob)
  have f400 := V387.other W391 hne
  subst e391
  exact Ends.retI X391 hx hlk hret (hb hby d4_161) (by decide) (by decide) ⟨rfl, O391, [i1], ⟨f394, f396, f397, f399, ⟨_ :: _, f400, by simp only [List.length_cons, List.length_nil] at *; omega⟩, ⟨_ :: _, V391, by simp only [List.length_cons, List.length_nil] at *; omega⟩, hne, hoa, hob⟩, (List.perm_iff_count.mpr fun z => by simp only [List.count_cons, List.count_nil] <;> ac_rfl), by simp only [own_ord] at * <;> omega, by simp only [own_ord] at Q0; simp only [List.mem_cons, List.not_mem_nil, or_false, false_or]; intro j hj; subst hj; omega⟩
theorem efO3 (m : MethodId) (x0 : Addr) : entryFrame m #[(.ref x0)] 7 = mkF m 0 #[.val (.ref x0), .unset, .unset, .unset, .unset, .unset, .unset] [] := by first | (simp [entryFrame, mkF, argsToLocals, Value.category]; done) | rfl
set_option maxRecDepth 65536 in
set_option maxHeartbeats 40000000 in
theorem rmO3 (l : Launch) (Z : State) (a0 : Array Value) (hw : ∀ d ∈ tables_1, d.before a0 Z = true) (oa : Addr) (K : Int32 → Int32) (kA vA : Addr) (i0 i1 i2 : Int32) (h0 : Heap) (H0 : HS Z h0 oa kA vA K [i0, i1, i2]) (Q0 : own_ord K [i0, i1, i2]) :
    Con l (⟨"com/example/hourline/hourline/engine/MinHeap", "pop", "()I"⟩ : MethodName) prog_36_method_5_code 7 (some .int) [] ({ frames := 0, cells := 0, slots := 0, locals := 0 } : Room) #[(.ref oa)] Z h0 (fun v h L => v = some (.int i0) ∧ Ok h0 h [oa, kA, vA] L ∧ ∃ is, HS Z h oa kA vA K is ∧ (i0 :: is).Perm [i0, i1, i2] ∧ own_ord K is ∧ ∀ j ∈ is, (K i0).toInt ≤ (K j).toInt) := by
  refine Con.of (plainFor_of_name pn_1) ?_
  intro p e s m below meth c s₁ hx hZ hby hml hown hnm hret hlk X0 e0
  refine Ends.cast (efO3 m oa) ?_
  show Ends p e below s _ _ _ s₁ (mkF m 0 #[.val (.ref oa), .unset, .unset, .unset, .unset, .unset, .unset] [])
  have O0 := Ok.refl h0 [oa, kA, vA]
  obtain ⟨E0, F_k, F_v, F_s, ⟨rk, A_k, hrk⟩, ⟨rv, A_v, hrv⟩, hne, hoa, hob⟩ := H0
  have A_k' : Ary Z h0 kA .double ((.double (FP.i2d (K i0))) :: (.double (FP.i2d (K i1))) :: (.double (FP.i2d (K i2))) :: rk) := A_k
  have A_v' : Ary Z h0 vA .int ((.int i0) :: (.int i1) :: (.int i2) :: rv) := A_v
  have F_s' : Fld Z h0 oa "com/example/hourline/hourline/engine/MinHeap" "size" "I" (.int (3 : Int32)) := F_s
  refine E.aloadN (q := 1) X0 hx (hb hby d4_0) rfl rfl ?_
  refine Ends.getF X0 hx hZ hown (host := "") (Or.inl (hw _ (List.mem_of_getElem? (i := 13) rfl))) Via.refl e0 F_v (hb hby d4_1) ?_
  intro T401 X401 e401
  refine E.iconst (q := 5) (v := (0 : Int32)) X401 hx (hb hby d4_4) rfl ?_
  refine Ends.ild X401 hx hZ e401 A_v' (i := 0) rfl rfl (hb hby d4_5) ?_
  refine E.istoreN (q := 7) (l' := #[.val (.ref oa), .val (.int i0), .unset, .unset, .unset, .unset, .unset]) X401 hx (hb hby d4_6) rfl ?_
  refine E.aloadN (q := 8) X401 hx (hb hby d4_7) rfl rfl ?_
  refine Ends.getF X401 hx hZ hown (host := "") (Or.inl (hw _ (List.mem_of_getElem? (i := 10) rfl))) Via.refl e401 F_k (hb hby d4_8) ?_
  intro T402 X402 e402
  refine E.aloadN (q := 12) X402 hx (hb hby d4_11) rfl rfl ?_
  refine E.dup (q := 13) X402 hx (hb hby d4_12) rfl ?_
  refine Ends.getF X402 hx hZ hown (host := "") (Or.inl (hw _ (List.mem_of_getElem? (i := 20) rfl))) Via.refl e402 F_s' (hb hby d4_13) ?_
  intro T403 X403 e403
  refine E.iconst (q := 17) (v := (1 : Int32)) X403 hx (hb hby d4_16) rfl ?_
  refine E.isub (q := 18) X403 hx (hb hby d4_17) ?_
  rw [show ((3 : Int32) - (1 : Int32)) = (2 : Int32) from by decide]
  refine E.dupX1 (q := 19) X403 hx (hb hby d4_18) rfl rfl ?_
  refine Ends.putF X403 hx hZ hown (host := "") (Or.inl (hw _ (List.mem_of_getElem? (i := 20) rfl))) Via.refl e403 F_s' E0 (Or.inl (hw _ (List.mem_of_getElem? (i := 21) rfl))) (hw _ (List.mem_of_getElem? (i := 2) rfl)) (ty := .int) (by decide) rfl rfl (hb hby d4_19) ?_
  intro T404 h404 X404 e404 W404 Fw404
  have O404 := O0.wr W404 (Or.inl (List.mem_of_getElem? (i := 0) rfl))
  have f405 := A_k'.other W404 (Ne.symm hoa)
  refine Ends.dld X404 hx hZ e404 f405 (i := 2) rfl rfl (hb hby d4_22) ?_
  refine E.dstoreN (q := 24) (l' := #[.val (.ref oa), .val (.int i0), .val (.double (FP.i2d (K i2))), .second, .unset, .unset, .unset]) X404 hx (hb hby d4_23) rfl ?_
  refine E.aloadN (q := 25) X404 hx (hb hby d4_24) rfl rfl ?_
  have f406 := F_v.other W404 (Or.inr (slot_ne (Or.inl (hw _ (List.mem_of_getElem? (i := 14) rfl))) (Or.inl (hw _ (List.mem_of_getElem? (i := 21) rfl))) (by decide) (t := (.array .int)) (t' := .int) (by decide) (by decide)))
  refine Ends.getF X404 hx hZ hown (host := "") (Or.inl (hw _ (List.mem_of_getElem? (i := 13) rfl))) Via.refl e404 f406 (hb hby d4_25) ?_
  intro T407 X407 e407
  refine E.aloadN (q := 29) X407 hx (hb hby d4_28) rfl rfl ?_
  refine Ends.getF X407 hx hZ hown (host := "") (Or.inl (hw _ (List.mem_of_getElem? (i := 20) rfl))) Via.refl e407 Fw404 (hb hby d4_29) ?_
  intro T408 X408 e408
  have f409 := A_v'.other W404 (Ne.symm hob)
  refine Ends.ild X408 hx hZ e408 f409 (i := 2) rfl rfl (hb hby d4_32) ?_
  refine E.istore (q := 35) (l' := #[.val (.ref oa), .val (.int i0), .val (.double (FP.i2d (K i2))), .second, .val (.int i2), .unset, .unset]) X408 hx (hb hby d4_33) rfl ?_
  refine E.iconst (q := 36) (v := (0 : Int32)) X408 hx (hb hby d4_35) rfl ?_
  refine E.istore (q := 38) (l' := #[.val (.ref oa), .val (.int i0), .val (.double (FP.i2d (K i2))), .second, .val (.int i2), .val (.int (0 : Int32)), .unset]) X408 hx (hb hby d4_36) rfl ?_
  refine E.iconst (q := 39) (v := (2 : Int32)) X408 hx (hb hby d4_38) rfl ?_
  refine E.iload (q := 41) X408 hx (hb hby d4_39) rfl ?_
  refine E.imul (q := 42) X408 hx (hb hby d4_41) ?_
  rw [show ((2 : Int32) * (0 : Int32)) = (0 : Int32) from by decide]
  refine E.iconst (q := 43) (v := (1 : Int32)) X408 hx (hb hby d4_42) rfl ?_
  refine E.iadd (q := 44) X408 hx (hb hby d4_43) ?_
  rw [show ((0 : Int32) + (1 : Int32)) = (1 : Int32) from by decide]
  refine E.aloadN (q := 45) X408 hx (hb hby d4_44) rfl rfl ?_
  refine Ends.getF X408 hx hZ hown (host := "") (Or.inl (hw _ (List.mem_of_getElem? (i := 20) rfl))) Via.refl e408 Fw404 (hb hby d4_45) ?_
  intro T410 X410 e410
  refine E.icmpN (q := 51) X410 hx (hb hby d4_48) (XT.ii_ge_f (by decide)) ?_
  refine E.iconst (q := 52) (v := (2 : Int32)) X410 hx (hb hby d4_51) rfl ?_
  refine E.iload (q := 54) X410 hx (hb hby d4_52) rfl ?_
  refine E.imul (q := 55) X410 hx (hb hby d4_54) ?_
  rw [show ((2 : Int32) * (0 : Int32)) = (0 : Int32) from by decide]
  refine E.iconst (q := 56) (v := (1 : Int32)) X410 hx (hb hby d4_55) rfl ?_
  refine E.iadd (q := 57) X410 hx (hb hby d4_56) ?_
  rw [show ((0 : Int32) + (1 : Int32)) = (1 : Int32) from by decide]
  refine E.istore (q := 59) (l' := #[.val (.ref oa), .val (.int i0), .val (.double (FP.i2d (K i2))), .second, .val (.int i2), .val (.int (0 : Int32)), .val (.int (1 : Int32))]) X410 hx (hb hby d4_57) rfl ?_
  refine E.iload (q := 61) X410 hx (hb hby d4_59) rfl ?_
  refine E.iconst (q := 62) (v := (1 : Int32)) X410 hx (hb hby d4_61) rfl ?_
  refine E.iadd (q := 63) X410 hx (hb hby d4_62) ?_
  rw [show ((1 : Int32) + (1 : Int32)) = (2 : Int32) from by decide]
  refine E.aloadN (q := 64) X410 hx (hb hby d4_63) rfl rfl ?_
  refine Ends.getF X410 hx hZ hown (host := "") (Or.inl (hw _ (List.mem_of_getElem? (i := 20) rfl))) Via.refl e410 Fw404 (hb hby d4_64) ?_
  intro T411 X411 e411
  refine E.icmpY (q := 93) X411 hx (hb hby d4_67) (XT.ii_ge_t (by decide)) ?_
  refine E.aloadN (q := 94) X411 hx (hb hby d4_93) rfl rfl ?_
  have f412 := F_k.other W404 (Or.inr (slot_ne (Or.inl (hw _ (List.mem_of_getElem? (i := 11) rfl))) (Or.inl (hw _ (List.mem_of_getElem? (i := 21) rfl))) (by decide) (t := (.array .double)) (t' := .int) (by decide) (by decide)))
  refine Ends.getF X411 hx hZ hown (host := "") (Or.inl (hw _ (List.mem_of_getElem? (i := 10) rfl))) Via.refl e411 f412 (hb hby d4_94) ?_
  intro T413 X413 e413
  refine E.iload (q := 99) X413 hx (hb hby d4_97) rfl ?_
  refine Ends.dld X413 hx hZ e413 f405 (i := 1) rfl rfl (hb hby d4_99) ?_
  refine E.dloadN (q := 101) X413 hx (hb hby d4_100) rfl ?_
  refine E.dcmp (q := 102) X413 hx (hb hby d4_101) ?_
  rw [own_dc]
  by_cases hq7 : (K i1).toInt < (K i2).toInt
  · refine E.ifY (q := 108) X413 hx (hb hby d4_102) (XT.i0_lt_t ((own_c_lt _ _).mpr hq7)) ?_
    refine E.aloadN (q := 109) X413 hx (hb hby d4_108) rfl rfl ?_
    refine Ends.getF X413 hx hZ hown (host := "") (Or.inl (hw _ (List.mem_of_getElem? (i := 10) rfl))) Via.refl e413 f412 (hb hby d4_109) ?_
    intro T414 X414 e414
    refine E.iload (q := 114) X414 hx (hb hby d4_112) rfl ?_
    refine E.aloadN (q := 115) X414 hx (hb hby d4_114) rfl rfl ?_
    refine Ends.getF X414 hx hZ hown (host := "") (Or.inl (hw _ (List.mem_of_getElem? (i := 10) rfl))) Via.refl e414 f412 (hb hby d4_115) ?_
    intro T415 X415 e415
    refine E.iload (q := 120) X415 hx (hb hby d4_118) rfl ?_
    refine Ends.dld X415 hx hZ e415 f405 (i := 1) rfl rfl (hb hby d4_120) ?_
    refine Ends.dst X415 hx hZ e415 f405 (i := 0) rfl (by simp only [List.length_cons]; omega) (hb hby d4_121) ?_
    intro T416 h416 X416 e416 W416 V416
    have V416 : Ary Z h416 kA .double ((.double (FP.i2d (K i1))) :: (.double (FP.i2d (K i1))) :: (.double (FP.i2d (K i2))) :: rk) := V416
    have O416 := O404.wr W416 (Or.inl (List.mem_of_getElem? (i := 1) rfl))
    refine E.aloadN (q := 123) X416 hx (hb hby d4_122) rfl rfl ?_
    have f417 := f406.other W416 (Or.inl hoa)
    refine Ends.getF X416 hx hZ hown (host := "") (Or.inl (hw _ (List.mem_of_getElem? (i := 13) rfl))) Via.refl e416 f417 (hb hby d4_123) ?_
    intro T418 X418 e418
    refine E.iload (q := 128) X418 hx (hb hby d4_126) rfl ?_
    refine E.aloadN (q := 129) X418 hx (hb hby d4_128) rfl rfl ?_
    refine Ends.getF X418 hx hZ hown (host := "") (Or.inl (hw _ (List.mem_of_getElem? (i := 13) rfl))) Via.refl e418 f417 (hb hby d4_129) ?_
    intro T419 X419 e419
    refine E.iload (q := 134) X419 hx (hb hby d4_132) rfl ?_
    have f420 := f409.other W416 (Ne.symm hne)
    refine Ends.ild X419 hx hZ e419 f420 (i := 1) rfl rfl (hb hby d4_134) ?_
    refine Ends.ist X419 hx hZ e419 f420 (i := 0) rfl (by simp only [List.length_cons]; omega) (hb hby d4_135) ?_
    intro T421 h421 X421 e421 W421 V421
    have V421 : Ary Z h421 vA .int ((.int i1) :: (.int i1) :: (.int i2) :: rv) := V421
    have O421 := O416.wr W421 (Or.inl (List.mem_of_getElem? (i := 2) rfl))
    refine E.iload (q := 138) X421 hx (hb hby d4_136) rfl ?_
    refine E.istore (q := 140) (l' := #[.val (.ref oa), .val (.int i0), .val (.double (FP.i2d (K i2))), .second, .val (.int i2), .val (.int (1 : Int32)), .val (.int (1 : Int32))]) X421 hx (hb hby d4_138) rfl ?_
    refine E.goto (q := 38) X421 hx (hb hby d4_140) ?_
    refine E.iconst (q := 39) (v := (2 : Int32)) X421 hx (hb hby d4_38) rfl ?_
    refine E.iload (q := 41) X421 hx (hb hby d4_39) rfl ?_
    refine E.imul (q := 42) X421 hx (hb hby d4_41) ?_
    rw [show ((2 : Int32) * (1 : Int32)) = (2 : Int32) from by decide]
    refine E.iconst (q := 43) (v := (1 : Int32)) X421 hx (hb hby d4_42) rfl ?_
    refine E.iadd (q := 44) X421 hx (hb hby d4_43) ?_
    rw [show ((2 : Int32) + (1 : Int32)) = (3 : Int32) from by decide]
    refine E.aloadN (q := 45) X421 hx (hb hby d4_44) rfl rfl ?_
    have f422 := Fw404.other W416 (Or.inl hoa)
    have f423 := f422.other W421 (Or.inl hob)
    refine Ends.getF X421 hx hZ hown (host := "") (Or.inl (hw _ (List.mem_of_getElem? (i := 20) rfl))) Via.refl e421 f423 (hb hby d4_45) ?_
    intro T424 X424 e424
    refine E.icmpY (q := 143) X424 hx (hb hby d4_48) (XT.ii_ge_t (by decide)) ?_
    refine E.aloadN (q := 144) X424 hx (hb hby d4_143) rfl rfl ?_
    have f425 := f412.other W416 (Or.inl hoa)
    have f426 := f425.other W421 (Or.inl hob)
    refine Ends.getF X424 hx hZ hown (host := "") (Or.inl (hw _ (List.mem_of_getElem? (i := 10) rfl))) Via.refl e424 f426 (hb hby d4_144) ?_
    intro T427 X427 e427
    refine E.iload (q := 149) X427 hx (hb hby d4_147) rfl ?_
    refine E.dloadN (q := 150) X427 hx (hb hby d4_149) rfl ?_
    have f428 := V416.other W421 hne
    refine Ends.dst X427 hx hZ e427 f428 (i := 1) rfl (by simp only [List.length_cons]; omega) (hb hby d4_150) ?_
    intro T429 h429 X429 e429 W429 V429
    have V429 : Ary Z h429 kA .double ((.double (FP.i2d (K i1))) :: (.double (FP.i2d (K i2))) :: (.double (FP.i2d (K i2))) :: rk) := V429
    have O429 := O421.wr W429 (Or.inl (List.mem_of_getElem? (i := 1) rfl))
    refine E.aloadN (q := 152) X429 hx (hb hby d4_151) rfl rfl ?_
    have f430 := f417.other W421 (Or.inl hob)
    have f431 := f430.other W429 (Or.inl hoa)
    refine Ends.getF X429 hx hZ hown (host := "") (Or.inl (hw _ (List.mem_of_getElem? (i := 13) rfl))) Via.refl e429 f431 (hb hby d4_152) ?_
    intro T432 X432 e432
    refine E.iload (q := 157) X432 hx (hb hby d4_155) rfl ?_
    refine E.iload (q := 159) X432 hx (hb hby d4_157) rfl ?_
    have f433 := V421.other W429 (Ne.symm hne)
    refine Ends.ist X432 hx hZ e432 f433 (i := 1) rfl (by simp only [List.length_cons]; omega) (hb hby d4_159) ?_
    intro T434 h434 X434 e434 W434 V434
    have V434 : Ary Z h434 vA .int ((.int i1) :: (.int i2) :: (.int i2) :: rv) := V434
    have O434 := O429.wr W434 (Or.inl (List.mem_of_getElem? (i := 2) rfl))
    refine E.iloadN (q := 161) X434 hx (hb hby d4_160) rfl ?_
    have f435 := E0.wr W404
    have f436 := f435.wr W416
    have f437 := f436.wr W421
    have f438 := f437.wr W429
    have f439 := f438.wr W434
    have f440 := f426.other W429 (Or.inl hoa)
    have f441 := f440.other W434 (Or.inl hob)
    have f442 := f431.other W434 (Or.inl hob)
    have f443 := f423.other W429 (Or.inl hoa)
    have f444 := f443.other W434 (Or.inl hob)
    have f445 := V429.other W434 hne
    subst e434
    exact Ends.retI X434 hx hlk hret (hb hby d4_161) (by decide) (by decide) ⟨rfl, O434, [i1, i2], ⟨f439, f441, f442, f444, ⟨_ :: _, f445, by simp only [List.length_cons, List.length_nil] at *; omega⟩, ⟨_ :: _, V434, by simp only [List.length_cons, List.length_nil] at *; omega⟩, hne, hoa, hob⟩, (List.perm_iff_count.mpr fun z => by simp only [List.count_cons, List.count_nil] <;> ac_rfl), by simp only [own_ord] at * <;> omega, by simp only [own_ord] at Q0; simp only [List.mem_cons, List.not_mem_nil, or_false, false_or]; intro j hj; rcases hj with rfl | rfl <;> omega⟩
  · refine E.ifN (q := 105) X413 hx (hb hby d4_102) (XT.i0_lt_f (fun q => hq7 ((own_c_lt _ _).mp q))) ?_
    refine E.goto (q := 143) X413 hx (hb hby d4_105) ?_
    refine E.aloadN (q := 144) X413 hx (hb hby d4_143) rfl rfl ?_
    refine Ends.getF X413 hx hZ hown (host := "") (Or.inl (hw _ (List.mem_of_getElem? (i := 10) rfl))) Via.refl e413 f412 (hb hby d4_144) ?_
    intro T446 X446 e446
    refine E.iload (q := 149) X446 hx (hb hby d4_147) rfl ?_
    refine E.dloadN (q := 150) X446 hx (hb hby d4_149) rfl ?_
    refine Ends.dst X446 hx hZ e446 f405 (i := 0) rfl (by simp only [List.length_cons]; omega) (hb hby d4_150) ?_
    intro T447 h447 X447 e447 W447 V447
    have V447 : Ary Z h447 kA .double ((.double (FP.i2d (K i2))) :: (.double (FP.i2d (K i1))) :: (.double (FP.i2d (K i2))) :: rk) := V447
    have O447 := O404.wr W447 (Or.inl (List.mem_of_getElem? (i := 1) rfl))
    refine E.aloadN (q := 152) X447 hx (hb hby d4_151) rfl rfl ?_
    have f448 := f406.other W447 (Or.inl hoa)
    refine Ends.getF X447 hx hZ hown (host := "") (Or.inl (hw _ (List.mem_of_getElem? (i := 13) rfl))) Via.refl e447 f448 (hb hby d4_152) ?_
    intro T449 X449 e449
    refine E.iload (q := 157) X449 hx (hb hby d4_155) rfl ?_
    refine E.iload (q := 159) X449 hx (hb hby d4_157) rfl ?_
    have f450 := f409.other W447 (Ne.symm hne)
    refine Ends.ist X449 hx hZ e449 f450 (i := 0) rfl (by simp only [List.length_cons]; omega) (hb hby d4_159) ?_
    intro T451 h451 X451 e451 W451 V451
    have V451 : Ary Z h451 vA .int ((.int i2) :: (.int i1) :: (.int i2) :: rv) := V451
    have O451 := O447.wr W451 (Or.inl (List.mem_of_getElem? (i := 2) rfl))
    refine E.iloadN (q := 161) X451 hx (hb hby d4_160) rfl ?_
    have f452 := E0.wr W404
    have f453 := f452.wr W447
    have f454 := f453.wr W451
    have f455 := f412.other W447 (Or.inl hoa)
    have f456 := f455.other W451 (Or.inl hob)
    have f457 := f448.other W451 (Or.inl hob)
    have f458 := Fw404.other W447 (Or.inl hoa)
    have f459 := f458.other W451 (Or.inl hob)
    have f460 := V447.other W451 hne
    subst e451
    exact Ends.retI X451 hx hlk hret (hb hby d4_161) (by decide) (by decide) ⟨rfl, O451, [i2, i1], ⟨f454, f456, f457, f459, ⟨_ :: _, f460, by simp only [List.length_cons, List.length_nil] at *; omega⟩, ⟨_ :: _, V451, by simp only [List.length_cons, List.length_nil] at *; omega⟩, hne, hoa, hob⟩, (List.perm_iff_count.mpr fun z => by simp only [List.count_cons, List.count_nil] <;> ac_rfl), by simp only [own_ord] at * <;> omega, by simp only [own_ord] at Q0; simp only [List.mem_cons, List.not_mem_nil, or_false, false_or]; intro j hj; rcases hj with rfl | rfl <;> omega⟩
theorem efO4 (m : MethodId) (x0 : Addr) : entryFrame m #[(.ref x0)] 7 = mkF m 0 #[.val (.ref x0), .unset, .unset, .unset, .unset, .unset, .unset] [] := by first | (simp [entryFrame, mkF, argsToLocals, Value.category]; done) | rfl
set_option maxRecDepth 65536 in
set_option maxHeartbeats 40000000 in
theorem rmO4 (l : Launch) (Z : State) (a0 : Array Value) (hw : ∀ d ∈ tables_1, d.before a0 Z = true) (oa : Addr) (K : Int32 → Int32) (kA vA : Addr) (i0 i1 i2 i3 : Int32) (h0 : Heap) (H0 : HS Z h0 oa kA vA K [i0, i1, i2, i3]) (Q0 : own_ord K [i0, i1, i2, i3]) :
    Con l (⟨"com/example/hourline/hourline/engine/MinHeap", "pop", "()I"⟩ : MethodName) prog_36_method_5_code 7 (some .int) [] ({ frames := 0, cells := 0, slots := 0, locals := 0 } : Room) #[(.ref oa)] Z h0 (fun v h L => v = some (.int i0) ∧ Ok h0 h [oa, kA, vA] L ∧ ∃ is, HS Z h oa kA vA K is ∧ (i0 :: is).Perm [i0, i1, i2, i3] ∧ own_ord K is ∧ ∀ j ∈ is, (K i0).toInt ≤ (K j).toInt) := by
  refine Con.of (plainFor_of_name pn_1) ?_
  intro p e s m below meth c s₁ hx hZ hby hml hown hnm hret hlk X0 e0
  refine Ends.cast (efO4 m oa) ?_
  show Ends p e below s _ _ _ s₁ (mkF m 0 #[.val (.ref oa), .unset, .unset, .unset, .unset, .unset, .unset] [])
  have O0 := Ok.refl h0 [oa, kA, vA]
  obtain ⟨E0, F_k, F_v, F_s, ⟨rk, A_k, hrk⟩, ⟨rv, A_v, hrv⟩, hne, hoa, hob⟩ := H0
  have A_k' : Ary Z h0 kA .double ((.double (FP.i2d (K i0))) :: (.double (FP.i2d (K i1))) :: (.double (FP.i2d (K i2))) :: (.double (FP.i2d (K i3))) :: rk) := A_k
  have A_v' : Ary Z h0 vA .int ((.int i0) :: (.int i1) :: (.int i2) :: (.int i3) :: rv) := A_v
  have F_s' : Fld Z h0 oa "com/example/hourline/hourline/engine/MinHeap" "size" "I" (.int (4 : Int32)) := F_s
  refine E.aloadN (q := 1) X0 hx (hb hby d4_0) rfl rfl ?_
  refine Ends.getF X0 hx hZ hown (host := "") (Or.inl (hw _ (List.mem_of_getElem? (i := 13) rfl))) Via.refl e0 F_v (hb hby d4_1) ?_
  intro T461 X461 e461
  refine E.iconst (q := 5) (v := (0 : Int32)) X461 hx (hb hby d4_4) rfl ?_
  refine Ends.ild X461 hx hZ e461 A_v' (i := 0) rfl rfl (hb hby d4_5) ?_
  refine E.istoreN (q := 7) (l' := #[.val (.ref oa), .val (.int i0), .unset, .unset, .unset, .unset, .unset]) X461 hx (hb hby d4_6) rfl ?_
  refine E.aloadN (q := 8) X461 hx (hb hby d4_7) rfl rfl ?_
  refine Ends.getF X461 hx hZ hown (host := "") (Or.inl (hw _ (List.mem_of_getElem? (i := 10) rfl))) Via.refl e461 F_k (hb hby d4_8) ?_
  intro T462 X462 e462
  refine E.aloadN (q := 12) X462 hx (hb hby d4_11) rfl rfl ?_
  refine E.dup (q := 13) X462 hx (hb hby d4_12) rfl ?_
  refine Ends.getF X462 hx hZ hown (host := "") (Or.inl (hw _ (List.mem_of_getElem? (i := 20) rfl))) Via.refl e462 F_s' (hb hby d4_13) ?_
  intro T463 X463 e463
  refine E.iconst (q := 17) (v := (1 : Int32)) X463 hx (hb hby d4_16) rfl ?_
  refine E.isub (q := 18) X463 hx (hb hby d4_17) ?_
  rw [show ((4 : Int32) - (1 : Int32)) = (3 : Int32) from by decide]
  refine E.dupX1 (q := 19) X463 hx (hb hby d4_18) rfl rfl ?_
  refine Ends.putF X463 hx hZ hown (host := "") (Or.inl (hw _ (List.mem_of_getElem? (i := 20) rfl))) Via.refl e463 F_s' E0 (Or.inl (hw _ (List.mem_of_getElem? (i := 21) rfl))) (hw _ (List.mem_of_getElem? (i := 2) rfl)) (ty := .int) (by decide) rfl rfl (hb hby d4_19) ?_
  intro T464 h464 X464 e464 W464 Fw464
  have O464 := O0.wr W464 (Or.inl (List.mem_of_getElem? (i := 0) rfl))
  have f465 := A_k'.other W464 (Ne.symm hoa)
  refine Ends.dld X464 hx hZ e464 f465 (i := 3) rfl rfl (hb hby d4_22) ?_
  refine E.dstoreN (q := 24) (l' := #[.val (.ref oa), .val (.int i0), .val (.double (FP.i2d (K i3))), .second, .unset, .unset, .unset]) X464 hx (hb hby d4_23) rfl ?_
  refine E.aloadN (q := 25) X464 hx (hb hby d4_24) rfl rfl ?_
  have f466 := F_v.other W464 (Or.inr (slot_ne (Or.inl (hw _ (List.mem_of_getElem? (i := 14) rfl))) (Or.inl (hw _ (List.mem_of_getElem? (i := 21) rfl))) (by decide) (t := (.array .int)) (t' := .int) (by decide) (by decide)))
  refine Ends.getF X464 hx hZ hown (host := "") (Or.inl (hw _ (List.mem_of_getElem? (i := 13) rfl))) Via.refl e464 f466 (hb hby d4_25) ?_
  intro T467 X467 e467
  refine E.aloadN (q := 29) X467 hx (hb hby d4_28) rfl rfl ?_
  refine Ends.getF X467 hx hZ hown (host := "") (Or.inl (hw _ (List.mem_of_getElem? (i := 20) rfl))) Via.refl e467 Fw464 (hb hby d4_29) ?_
  intro T468 X468 e468
  have f469 := A_v'.other W464 (Ne.symm hob)
  refine Ends.ild X468 hx hZ e468 f469 (i := 3) rfl rfl (hb hby d4_32) ?_
  refine E.istore (q := 35) (l' := #[.val (.ref oa), .val (.int i0), .val (.double (FP.i2d (K i3))), .second, .val (.int i3), .unset, .unset]) X468 hx (hb hby d4_33) rfl ?_
  refine E.iconst (q := 36) (v := (0 : Int32)) X468 hx (hb hby d4_35) rfl ?_
  refine E.istore (q := 38) (l' := #[.val (.ref oa), .val (.int i0), .val (.double (FP.i2d (K i3))), .second, .val (.int i3), .val (.int (0 : Int32)), .unset]) X468 hx (hb hby d4_36) rfl ?_
  refine E.iconst (q := 39) (v := (2 : Int32)) X468 hx (hb hby d4_38) rfl ?_
  refine E.iload (q := 41) X468 hx (hb hby d4_39) rfl ?_
  refine E.imul (q := 42) X468 hx (hb hby d4_41) ?_
  rw [show ((2 : Int32) * (0 : Int32)) = (0 : Int32) from by decide]
  refine E.iconst (q := 43) (v := (1 : Int32)) X468 hx (hb hby d4_42) rfl ?_
  refine E.iadd (q := 44) X468 hx (hb hby d4_43) ?_
  rw [show ((0 : Int32) + (1 : Int32)) = (1 : Int32) from by decide]
  refine E.aloadN (q := 45) X468 hx (hb hby d4_44) rfl rfl ?_
  refine Ends.getF X468 hx hZ hown (host := "") (Or.inl (hw _ (List.mem_of_getElem? (i := 20) rfl))) Via.refl e468 Fw464 (hb hby d4_45) ?_
  intro T470 X470 e470
  refine E.icmpN (q := 51) X470 hx (hb hby d4_48) (XT.ii_ge_f (by decide)) ?_
  refine E.iconst (q := 52) (v := (2 : Int32)) X470 hx (hb hby d4_51) rfl ?_
  refine E.iload (q := 54) X470 hx (hb hby d4_52) rfl ?_
  refine E.imul (q := 55) X470 hx (hb hby d4_54) ?_
  rw [show ((2 : Int32) * (0 : Int32)) = (0 : Int32) from by decide]
  refine E.iconst (q := 56) (v := (1 : Int32)) X470 hx (hb hby d4_55) rfl ?_
  refine E.iadd (q := 57) X470 hx (hb hby d4_56) ?_
  rw [show ((0 : Int32) + (1 : Int32)) = (1 : Int32) from by decide]
  refine E.istore (q := 59) (l' := #[.val (.ref oa), .val (.int i0), .val (.double (FP.i2d (K i3))), .second, .val (.int i3), .val (.int (0 : Int32)), .val (.int (1 : Int32))]) X470 hx (hb hby d4_57) rfl ?_
  refine E.iload (q := 61) X470 hx (hb hby d4_59) rfl ?_
  refine E.iconst (q := 62) (v := (1 : Int32)) X470 hx (hb hby d4_61) rfl ?_
  refine E.iadd (q := 63) X470 hx (hb hby d4_62) ?_
  rw [show ((1 : Int32) + (1 : Int32)) = (2 : Int32) from by decide]
  refine E.aloadN (q := 64) X470 hx (hb hby d4_63) rfl rfl ?_
  refine Ends.getF X470 hx hZ hown (host := "") (Or.inl (hw _ (List.mem_of_getElem? (i := 20) rfl))) Via.refl e470 Fw464 (hb hby d4_64) ?_
  intro T471 X471 e471
  refine E.icmpN (q := 70) X471 hx (hb hby d4_67) (XT.ii_ge_f (by decide)) ?_
  refine E.aloadN (q := 71) X471 hx (hb hby d4_70) rfl rfl ?_
  have f472 := F_k.other W464 (Or.inr (slot_ne (Or.inl (hw _ (List.mem_of_getElem? (i := 11) rfl))) (Or.inl (hw _ (List.mem_of_getElem? (i := 21) rfl))) (by decide) (t := (.array .double)) (t' := .int) (by decide) (by decide)))
  refine Ends.getF X471 hx hZ hown (host := "") (Or.inl (hw _ (List.mem_of_getElem? (i := 10) rfl))) Via.refl e471 f472 (hb hby d4_71) ?_
  intro T473 X473 e473
  refine E.iload (q := 76) X473 hx (hb hby d4_74) rfl ?_
  refine E.iconst (q := 77) (v := (1 : Int32)) X473 hx (hb hby d4_76) rfl ?_
  refine E.iadd (q := 78) X473 hx (hb hby d4_77) ?_
  rw [show ((1 : Int32) + (1 : Int32)) = (2 : Int32) from by decide]
  refine Ends.dld X473 hx hZ e473 f465 (i := 2) rfl rfl (hb hby d4_78) ?_
  refine E.aloadN (q := 80) X473 hx (hb hby d4_79) rfl rfl ?_
  refine Ends.getF X473 hx hZ hown (host := "") (Or.inl (hw _ (List.mem_of_getElem? (i := 10) rfl))) Via.refl e473 f472 (hb hby d4_80) ?_
  intro T474 X474 e474
  refine E.iload (q := 85) X474 hx (hb hby d4_83) rfl ?_
  refine Ends.dld X474 hx hZ e474 f465 (i := 1) rfl rfl (hb hby d4_85) ?_
  refine E.dcmp (q := 87) X474 hx (hb hby d4_86) ?_
  rw [own_dc]
  by_cases hq8 : (K i2).toInt < (K i1).toInt
  · refine E.ifN (q := 90) X474 hx (hb hby d4_87) (XT.i0_ge_f ((own_c_lt _ _).mpr hq8)) ?_
    refine E.iinc (q := 93) (v := (2 : Int32)) (l' := #[.val (.ref oa), .val (.int i0), .val (.double (FP.i2d (K i3))), .second, .val (.int i3), .val (.int (0 : Int32)), .val (.int (2 : Int32))]) X474 hx (hb hby d4_90) rfl (by decide) rfl ?_
    refine E.aloadN (q := 94) X474 hx (hb hby d4_93) rfl rfl ?_
    refine Ends.getF X474 hx hZ hown (host := "") (Or.inl (hw _ (List.mem_of_getElem? (i := 10) rfl))) Via.refl e474 f472 (hb hby d4_94) ?_
    intro T475 X475 e475
    refine E.iload (q := 99) X475 hx (hb hby d4_97) rfl ?_
    refine Ends.dld X475 hx hZ e475 f465 (i := 2) rfl rfl (hb hby d4_99) ?_
    refine E.dloadN (q := 101) X475 hx (hb hby d4_100) rfl ?_
    refine E.dcmp (q := 102) X475 hx (hb hby d4_101) ?_
    rw [own_dc]
    by_cases hq9 : (K i2).toInt < (K i3).toInt
    · refine E.ifY (q := 108) X475 hx (hb hby d4_102) (XT.i0_lt_t ((own_c_lt _ _).mpr hq9)) ?_
      refine E.aloadN (q := 109) X475 hx (hb hby d4_108) rfl rfl ?_
      refine Ends.getF X475 hx hZ hown (host := "") (Or.inl (hw _ (List.mem_of_getElem? (i := 10) rfl))) Via.refl e475 f472 (hb hby d4_109) ?_
      intro T476 X476 e476
      refine E.iload (q := 114) X476 hx (hb hby d4_112) rfl ?_
      refine E.aloadN (q := 115) X476 hx (hb hby d4_114) rfl rfl ?_
      refine Ends.getF X476 hx hZ hown (host := "") (Or.inl (hw _ (List.mem_of_getElem? (i := 10) rfl))) Via.refl e476 f472 (hb hby d4_115) ?_
      intro T477 X477 e477
      refine E.iload (q := 120) X477 hx (hb hby d4_118) rfl ?_
      refine Ends.dld X477 hx hZ e477 f465 (i := 2) rfl rfl (hb hby d4_120) ?_
      refine Ends.dst X477 hx hZ e477 f465 (i := 0) rfl (by simp only [List.length_cons]; omega) (hb hby d4_121) ?_
      intro T478 h478 X478 e478 W478 V478
      have V478 : Ary Z h478 kA .double ((.double (FP.i2d (K i2))) :: (.double (FP.i2d (K i1))) :: (.double (FP.i2d (K i2))) :: (.double (FP.i2d (K i3))) :: rk) := V478
      have O478 := O464.wr W478 (Or.inl (List.mem_of_getElem? (i := 1) rfl))
      refine E.aloadN (q := 123) X478 hx (hb hby d4_122) rfl rfl ?_
      have f479 := f466.other W478 (Or.inl hoa)
      refine Ends.getF X478 hx hZ hown (host := "") (Or.inl (hw _ (List.mem_of_getElem? (i := 13) rfl))) Via.refl e478 f479 (hb hby d4_123) ?_
      intro T480 X480 e480
      refine E.iload (q := 128) X480 hx (hb hby d4_126) rfl ?_
      refine E.aloadN (q := 129) X480 hx (hb hby d4_128) rfl rfl ?_
      refine Ends.getF X480 hx hZ hown (host := "") (Or.inl (hw _ (List.mem_of_getElem? (i := 13) rfl))) Via.refl e480 f479 (hb hby d4_129) ?_
      intro T481 X481 e481
      refine E.iload (q := 134) X481 hx (hb hby d4_132) rfl ?_
      have f482 := f469.other W478 (Ne.symm hne)
      refine Ends.ild X481 hx hZ e481 f482 (i := 2) rfl rfl (hb hby d4_134) ?_
      refine Ends.ist X481 hx hZ e481 f482 (i := 0) rfl (by simp only [List.length_cons]; omega) (hb hby d4_135) ?_
      intro T483 h483 X483 e483 W483 V483
      have V483 : Ary Z h483 vA .int ((.int i2) :: (.int i1) :: (.int i2) :: (.int i3) :: rv) := V483
      have O483 := O478.wr W483 (Or.inl (List.mem_of_getElem? (i := 2) rfl))
      refine E.iload (q := 138) X483 hx (hb hby d4_136) rfl ?_
      refine E.istore (q := 140) (l' := #[.val (.ref oa), .val (.int i0), .val (.double (FP.i2d (K i3))), .second, .val (.int i3), .val (.int (2 : Int32)), .val (.int (2 : Int32))]) X483 hx (hb hby d4_138) rfl ?_
      refine E.goto (q := 38) X483 hx (hb hby d4_140) ?_
      refine E.iconst (q := 39) (v := (2 : Int32)) X483 hx (hb hby d4_38) rfl ?_
      refine E.iload (q := 41) X483 hx (hb hby d4_39) rfl ?_
      refine E.imul (q := 42) X483 hx (hb hby d4_41) ?_
      rw [show ((2 : Int32) * (2 : Int32)) = (4 : Int32) from by decide]
      refine E.iconst (q := 43) (v := (1 : Int32)) X483 hx (hb hby d4_42) rfl ?_
      refine E.iadd (q := 44) X483 hx (hb hby d4_43) ?_
      rw [show ((4 : Int32) + (1 : Int32)) = (5 : Int32) from by decide]
      refine E.aloadN (q := 45) X483 hx (hb hby d4_44) rfl rfl ?_
      have f484 := Fw464.other W478 (Or.inl hoa)
      have f485 := f484.other W483 (Or.inl hob)
      refine Ends.getF X483 hx hZ hown (host := "") (Or.inl (hw _ (List.mem_of_getElem? (i := 20) rfl))) Via.refl e483 f485 (hb hby d4_45) ?_
      intro T486 X486 e486
      refine E.icmpY (q := 143) X486 hx (hb hby d4_48) (XT.ii_ge_t (by decide)) ?_
      refine E.aloadN (q := 144) X486 hx (hb hby d4_143) rfl rfl ?_
      have f487 := f472.other W478 (Or.inl hoa)
      have f488 := f487.other W483 (Or.inl hob)
      refine Ends.getF X486 hx hZ hown (host := "") (Or.inl (hw _ (List.mem_of_getElem? (i := 10) rfl))) Via.refl e486 f488 (hb hby d4_144) ?_
      intro T489 X489 e489
      refine E.iload (q := 149) X489 hx (hb hby d4_147) rfl ?_
      refine E.dloadN (q := 150) X489 hx (hb hby d4_149) rfl ?_
      have f490 := V478.other W483 hne
      refine Ends.dst X489 hx hZ e489 f490 (i := 2) rfl (by simp only [List.length_cons]; omega) (hb hby d4_150) ?_
      intro T491 h491 X491 e491 W491 V491
      have V491 : Ary Z h491 kA .double ((.double (FP.i2d (K i2))) :: (.double (FP.i2d (K i1))) :: (.double (FP.i2d (K i3))) :: (.double (FP.i2d (K i3))) :: rk) := V491
      have O491 := O483.wr W491 (Or.inl (List.mem_of_getElem? (i := 1) rfl))
      refine E.aloadN (q := 152) X491 hx (hb hby d4_151) rfl rfl ?_
      have f492 := f479.other W483 (Or.inl hob)
      have f493 := f492.other W491 (Or.inl hoa)
      refine Ends.getF X491 hx hZ hown (host := "") (Or.inl (hw _ (List.mem_of_getElem? (i := 13) rfl))) Via.refl e491 f493 (hb hby d4_152) ?_
      intro T494 X494 e494
      refine E.iload (q := 157) X494 hx (hb hby d4_155) rfl ?_
      refine E.iload (q := 159) X494 hx (hb hby d4_157) rfl ?_
      have f495 := V483.other W491 (Ne.symm hne)
      refine Ends.ist X494 hx hZ e494 f495 (i := 2) rfl (by simp only [List.length_cons]; omega) (hb hby d4_159) ?_
      intro T496 h496 X496 e496 W496 V496
      have V496 : Ary Z h496 vA .int ((.int i2) :: (.int i1) :: (.int i3) :: (.int i3) :: rv) := V496
      have O496 := O491.wr W496 (Or.inl (List.mem_of_getElem? (i := 2) rfl))
      refine E.iloadN (q := 161) X496 hx (hb hby d4_160) rfl ?_
      have f497 := E0.wr W464
      have f498 := f497.wr W478
      have f499 := f498.wr W483
      have f500 := f499.wr W491
      have f501 := f500.wr W496
      have f502 := f488.other W491 (Or.inl hoa)
      have f503 := f502.other W496 (Or.inl hob)
      have f504 := f493.other W496 (Or.inl hob)
      have f505 := f485.other W491 (Or.inl hoa)
      have f506 := f505.other W496 (Or.inl hob)
      have f507 := V491.other W496 hne
      subst e496
      exact Ends.retI X496 hx hlk hret (hb hby d4_161) (by decide) (by decide) ⟨rfl, O496, [i2, i1, i3], ⟨f501, f503, f504, f506, ⟨_ :: _, f507, by simp only [List.length_cons, List.length_nil] at *; omega⟩, ⟨_ :: _, V496, by simp only [List.length_cons, List.length_nil] at *; omega⟩, hne, hoa, hob⟩, (List.perm_iff_count.mpr fun z => by simp only [List.count_cons, List.count_nil] <;> ac_rfl), by simp only [own_ord] at * <;> omega, by simp only [own_ord] at Q0; simp only [List.mem_cons, List.not_mem_nil, or_false, false_or]; intro j hj; rcases hj with rfl | rfl | rfl <;> omega⟩
    · refine E.ifN (q := 105) X475 hx (hb hby d4_102) (XT.i0_lt_f (fun q => hq9 ((own_c_lt _ _).mp q))) ?_
      refine E.goto (q := 143) X475 hx (hb hby d4_105) ?_
      refine E.aloadN (q := 144) X475 hx (hb hby d4_143) rfl rfl ?_
      refine Ends.getF X475 hx hZ hown (host := "") (Or.inl (hw _ (List.mem_of_getElem? (i := 10) rfl))) Via.refl e475 f472 (hb hby d4_144) ?_
      intro T508 X508 e508
      refine E.iload (q := 149) X508 hx (hb hby d4_147) rfl ?_
      refine E.dloadN (q := 150) X508 hx (hb hby d4_149) rfl ?_
      refine Ends.dst X508 hx hZ e508 f465 (i := 0) rfl (by simp only [List.length_cons]; omega) (hb hby d4_150) ?_
      intro T509 h509 X509 e509 W509 V509
      have V509 : Ary Z h509 kA .double ((.double (FP.i2d (K i3))) :: (.double (FP.i2d (K i1))) :: (.double (FP.i2d (K i2))) :: (.double (FP.i2d (K i3))) :: rk) := V509
      have O509 := O464.wr W509 (Or.inl (List.mem_of_getElem? (i := 1) rfl))
      refine E.aloadN (q := 152) X509 hx (hb hby d4_151) rfl rfl ?_
      have f510 := f466.other W509 (Or.inl hoa)
      refine Ends.getF X509 hx hZ hown (host := "") (Or.inl (hw _ (List.mem_of_getElem? (i := 13) rfl))) Via.refl e509 f510 (hb hby d4_152) ?_
      intro T511 X511 e511
      refine E.iload (q := 157) X511 hx (hb hby d4_155) rfl ?_
      refine E.iload (q := 159) X511 hx (hb hby d4_157) rfl ?_
      have f512 := f469.other W509 (Ne.symm hne)
      refine Ends.ist X511 hx hZ e511 f512 (i := 0) rfl (by simp only [List.length_cons]; omega) (hb hby d4_159) ?_
      intro T513 h513 X513 e513 W513 V513
      have V513 : Ary Z h513 vA .int ((.int i3) :: (.int i1) :: (.int i2) :: (.int i3) :: rv) := V513
      have O513 := O509.wr W513 (Or.inl (List.mem_of_getElem? (i := 2) rfl))
      refine E.iloadN (q := 161) X513 hx (hb hby d4_160) rfl ?_
      have f514 := E0.wr W464
      have f515 := f514.wr W509
      have f516 := f515.wr W513
      have f517 := f472.other W509 (Or.inl hoa)
      have f518 := f517.other W513 (Or.inl hob)
      have f519 := f510.other W513 (Or.inl hob)
      have f520 := Fw464.other W509 (Or.inl hoa)
      have f521 := f520.other W513 (Or.inl hob)
      have f522 := V509.other W513 hne
      subst e513
      exact Ends.retI X513 hx hlk hret (hb hby d4_161) (by decide) (by decide) ⟨rfl, O513, [i3, i1, i2], ⟨f516, f518, f519, f521, ⟨_ :: _, f522, by simp only [List.length_cons, List.length_nil] at *; omega⟩, ⟨_ :: _, V513, by simp only [List.length_cons, List.length_nil] at *; omega⟩, hne, hoa, hob⟩, (List.perm_iff_count.mpr fun z => by simp only [List.count_cons, List.count_nil] <;> ac_rfl), by simp only [own_ord] at * <;> omega, by simp only [own_ord] at Q0; simp only [List.mem_cons, List.not_mem_nil, or_false, false_or]; intro j hj; rcases hj with rfl | rfl | rfl <;> omega⟩
  · refine E.ifY (q := 93) X474 hx (hb hby d4_87) (XT.i0_ge_t (fun q => hq8 ((own_c_lt _ _).mp q))) ?_
    refine E.aloadN (q := 94) X474 hx (hb hby d4_93) rfl rfl ?_
    refine Ends.getF X474 hx hZ hown (host := "") (Or.inl (hw _ (List.mem_of_getElem? (i := 10) rfl))) Via.refl e474 f472 (hb hby d4_94) ?_
    intro T523 X523 e523
    refine E.iload (q := 99) X523 hx (hb hby d4_97) rfl ?_
    refine Ends.dld X523 hx hZ e523 f465 (i := 1) rfl rfl (hb hby d4_99) ?_
    refine E.dloadN (q := 101) X523 hx (hb hby d4_100) rfl ?_
    refine E.dcmp (q := 102) X523 hx (hb hby d4_101) ?_
    rw [own_dc]
    by_cases hq10 : (K i1).toInt < (K i3).toInt
    · refine E.ifY (q := 108) X523 hx (hb hby d4_102) (XT.i0_lt_t ((own_c_lt _ _).mpr hq10)) ?_
      refine E.aloadN (q := 109) X523 hx (hb hby d4_108) rfl rfl ?_
      refine Ends.getF X523 hx hZ hown (host := "") (Or.inl (hw _ (List.mem_of_getElem? (i := 10) rfl))) Via.refl e523 f472 (hb hby d4_109) ?_
      intro T524 X524 e524
      refine E.iload (q := 114) X524 hx (hb hby d4_112) rfl ?_
      refine E.aloadN (q := 115) X524 hx (hb hby d4_114) rfl rfl ?_
      refine Ends.getF X524 hx hZ hown (host := "") (Or.inl (hw _ (List.mem_of_getElem? (i := 10) rfl))) Via.refl e524 f472 (hb hby d4_115) ?_
      intro T525 X525 e525
      refine E.iload (q := 120) X525 hx (hb hby d4_118) rfl ?_
      refine Ends.dld X525 hx hZ e525 f465 (i := 1) rfl rfl (hb hby d4_120) ?_
      refine Ends.dst X525 hx hZ e525 f465 (i := 0) rfl (by simp only [List.length_cons]; omega) (hb hby d4_121) ?_
      intro T526 h526 X526 e526 W526 V526
      have V526 : Ary Z h526 kA .double ((.double (FP.i2d (K i1))) :: (.double (FP.i2d (K i1))) :: (.double (FP.i2d (K i2))) :: (.double (FP.i2d (K i3))) :: rk) := V526
      have O526 := O464.wr W526 (Or.inl (List.mem_of_getElem? (i := 1) rfl))
      refine E.aloadN (q := 123) X526 hx (hb hby d4_122) rfl rfl ?_
      have f527 := f466.other W526 (Or.inl hoa)
      refine Ends.getF X526 hx hZ hown (host := "") (Or.inl (hw _ (List.mem_of_getElem? (i := 13) rfl))) Via.refl e526 f527 (hb hby d4_123) ?_
      intro T528 X528 e528
      refine E.iload (q := 128) X528 hx (hb hby d4_126) rfl ?_
      refine E.aloadN (q := 129) X528 hx (hb hby d4_128) rfl rfl ?_
      refine Ends.getF X528 hx hZ hown (host := "") (Or.inl (hw _ (List.mem_of_getElem? (i := 13) rfl))) Via.refl e528 f527 (hb hby d4_129) ?_
      intro T529 X529 e529
      refine E.iload (q := 134) X529 hx (hb hby d4_132) rfl ?_
      have f530 := f469.other W526 (Ne.symm hne)
      refine Ends.ild X529 hx hZ e529 f530 (i := 1) rfl rfl (hb hby d4_134) ?_
      refine Ends.ist X529 hx hZ e529 f530 (i := 0) rfl (by simp only [List.length_cons]; omega) (hb hby d4_135) ?_
      intro T531 h531 X531 e531 W531 V531
      have V531 : Ary Z h531 vA .int ((.int i1) :: (.int i1) :: (.int i2) :: (.int i3) :: rv) := V531
      have O531 := O526.wr W531 (Or.inl (List.mem_of_getElem? (i := 2) rfl))
      refine E.iload (q := 138) X531 hx (hb hby d4_136) rfl ?_
      refine E.istore (q := 140) (l' := #[.val (.ref oa), .val (.int i0), .val (.double (FP.i2d (K i3))), .second, .val (.int i3), .val (.int (1 : Int32)), .val (.int (1 : Int32))]) X531 hx (hb hby d4_138) rfl ?_
      refine E.goto (q := 38) X531 hx (hb hby d4_140) ?_
      refine E.iconst (q := 39) (v := (2 : Int32)) X531 hx (hb hby d4_38) rfl ?_
      refine E.iload (q := 41) X531 hx (hb hby d4_39) rfl ?_
      refine E.imul (q := 42) X531 hx (hb hby d4_41) ?_
      rw [show ((2 : Int32) * (1 : Int32)) = (2 : Int32) from by decide]
      refine E.iconst (q := 43) (v := (1 : Int32)) X531 hx (hb hby d4_42) rfl ?_
      refine E.iadd (q := 44) X531 hx (hb hby d4_43) ?_
      rw [show ((2 : Int32) + (1 : Int32)) = (3 : Int32) from by decide]
      refine E.aloadN (q := 45) X531 hx (hb hby d4_44) rfl rfl ?_
      have f532 := Fw464.other W526 (Or.inl hoa)
      have f533 := f532.other W531 (Or.inl hob)
      refine Ends.getF X531 hx hZ hown (host := "") (Or.inl (hw _ (List.mem_of_getElem? (i := 20) rfl))) Via.refl e531 f533 (hb hby d4_45) ?_
      intro T534 X534 e534
      refine E.icmpY (q := 143) X534 hx (hb hby d4_48) (XT.ii_ge_t (by decide)) ?_
      refine E.aloadN (q := 144) X534 hx (hb hby d4_143) rfl rfl ?_
      have f535 := f472.other W526 (Or.inl hoa)
      have f536 := f535.other W531 (Or.inl hob)
      refine Ends.getF X534 hx hZ hown (host := "") (Or.inl (hw _ (List.mem_of_getElem? (i := 10) rfl))) Via.refl e534 f536 (hb hby d4_144) ?_
      intro T537 X537 e537
      refine E.iload (q := 149) X537 hx (hb hby d4_147) rfl ?_
      refine E.dloadN (q := 150) X537 hx (hb hby d4_149) rfl ?_
      have f538 := V526.other W531 hne
      refine Ends.dst X537 hx hZ e537 f538 (i := 1) rfl (by simp only [List.length_cons]; omega) (hb hby d4_150) ?_
      intro T539 h539 X539 e539 W539 V539
      have V539 : Ary Z h539 kA .double ((.double (FP.i2d (K i1))) :: (.double (FP.i2d (K i3))) :: (.double (FP.i2d (K i2))) :: (.double (FP.i2d (K i3))) :: rk) := V539
      have O539 := O531.wr W539 (Or.inl (List.mem_of_getElem? (i := 1) rfl))
      refine E.aloadN (q := 152) X539 hx (hb hby d4_151) rfl rfl ?_
      have f540 := f527.other W531 (Or.inl hob)
      have f541 := f540.other W539 (Or.inl hoa)
      refine Ends.getF X539 hx hZ hown (host := "") (Or.inl (hw _ (List.mem_of_getElem? (i := 13) rfl))) Via.refl e539 f541 (hb hby d4_152) ?_
      intro T542 X542 e542
      refine E.iload (q := 157) X542 hx (hb hby d4_155) rfl ?_
      refine E.iload (q := 159) X542 hx (hb hby d4_157) rfl ?_
      have f543 := V531.other W539 (Ne.symm hne)
      refine Ends.ist X542 hx hZ e542 f543 (i := 1) rfl (by simp only [List.length_cons]; omega) (hb hby d4_159) ?_
      intro T544 h544 X544 e544 W544 V544
      have V544 : Ary Z h544 vA .int ((.int i1) :: (.int i3) :: (.int i2) :: (.int i3) :: rv) := V544
      have O544 := O539.wr W544 (Or.inl (List.mem_of_getElem? (i := 2) rfl))
      refine E.iloadN (q := 161) X544 hx (hb hby d4_160) rfl ?_
      have f545 := E0.wr W464
      have f546 := f545.wr W526
      have f547 := f546.wr W531
      have f548 := f547.wr W539
      have f549 := f548.wr W544
      have f550 := f536.other W539 (Or.inl hoa)
      have f551 := f550.other W544 (Or.inl hob)
      have f552 := f541.other W544 (Or.inl hob)
      have f553 := f533.other W539 (Or.inl hoa)
      have f554 := f553.other W544 (Or.inl hob)
      have f555 := V539.other W544 hne
      subst e544
      exact Ends.retI X544 hx hlk hret (hb hby d4_161) (by decide) (by decide) ⟨rfl, O544, [i1, i3, i2], ⟨f549, f551, f552, f554, ⟨_ :: _, f555, by simp only [List.length_cons, List.length_nil] at *; omega⟩, ⟨_ :: _, V544, by simp only [List.length_cons, List.length_nil] at *; omega⟩, hne, hoa, hob⟩, (List.perm_iff_count.mpr fun z => by simp only [List.count_cons, List.count_nil] <;> ac_rfl), by simp only [own_ord] at * <;> omega, by simp only [own_ord] at Q0; simp only [List.mem_cons, List.not_mem_nil, or_false, false_or]; intro j hj; rcases hj with rfl | rfl | rfl <;> omega⟩
    · refine E.ifN (q := 105) X523 hx (hb hby d4_102) (XT.i0_lt_f (fun q => hq10 ((own_c_lt _ _).mp q))) ?_
      refine E.goto (q := 143) X523 hx (hb hby d4_105) ?_
      refine E.aloadN (q := 144) X523 hx (hb hby d4_143) rfl rfl ?_
      refine Ends.getF X523 hx hZ hown (host := "") (Or.inl (hw _ (List.mem_of_getElem? (i := 10) rfl))) Via.refl e523 f472 (hb hby d4_144) ?_
      intro T556 X556 e556
      refine E.iload (q := 149) X556 hx (hb hby d4_147) rfl ?_
      refine E.dloadN (q := 150) X556 hx (hb hby d4_149) rfl ?_
      refine Ends.dst X556 hx hZ e556 f465 (i := 0) rfl (by simp only [List.length_cons]; omega) (hb hby d4_150) ?_
      intro T557 h557 X557 e557 W557 V557
      have V557 : Ary Z h557 kA .double ((.double (FP.i2d (K i3))) :: (.double (FP.i2d (K i1))) :: (.double (FP.i2d (K i2))) :: (.double (FP.i2d (K i3))) :: rk) := V557
      have O557 := O464.wr W557 (Or.inl (List.mem_of_getElem? (i := 1) rfl))
      refine E.aloadN (q := 152) X557 hx (hb hby d4_151) rfl rfl ?_
      have f558 := f466.other W557 (Or.inl hoa)
      refine Ends.getF X557 hx hZ hown (host := "") (Or.inl (hw _ (List.mem_of_getElem? (i := 13) rfl))) Via.refl e557 f558 (hb hby d4_152) ?_
      intro T559 X559 e559
      refine E.iload (q := 157) X559 hx (hb hby d4_155) rfl ?_
      refine E.iload (q := 159) X559 hx (hb hby d4_157) rfl ?_
      have f560 := f469.other W557 (Ne.symm hne)
      refine Ends.ist X559 hx hZ e559 f560 (i := 0) rfl (by simp only [List.length_cons]; omega) (hb hby d4_159) ?_
      intro T561 h561 X561 e561 W561 V561
      have V561 : Ary Z h561 vA .int ((.int i3) :: (.int i1) :: (.int i2) :: (.int i3) :: rv) := V561
      have O561 := O557.wr W561 (Or.inl (List.mem_of_getElem? (i := 2) rfl))
      refine E.iloadN (q := 161) X561 hx (hb hby d4_160) rfl ?_
      have f562 := E0.wr W464
      have f563 := f562.wr W557
      have f564 := f563.wr W561
      have f565 := f472.other W557 (Or.inl hoa)
      have f566 := f565.other W561 (Or.inl hob)
      have f567 := f558.other W561 (Or.inl hob)
      have f568 := Fw464.other W557 (Or.inl hoa)
      have f569 := f568.other W561 (Or.inl hob)
      have f570 := V557.other W561 hne
      subst e561
      exact Ends.retI X561 hx hlk hret (hb hby d4_161) (by decide) (by decide) ⟨rfl, O561, [i3, i1, i2], ⟨f564, f566, f567, f569, ⟨_ :: _, f570, by simp only [List.length_cons, List.length_nil] at *; omega⟩, ⟨_ :: _, V561, by simp only [List.length_cons, List.length_nil] at *; omega⟩, hne, hoa, hob⟩, (List.perm_iff_count.mpr fun z => by simp only [List.count_cons, List.count_nil] <;> ac_rfl), by simp only [own_ord] at * <;> omega, by simp only [own_ord] at Q0; simp only [List.mem_cons, List.not_mem_nil, or_false, false_or]; intro j hj; rcases hj with rfl | rfl | rfl <;> omega⟩
theorem efO5 (m : MethodId) (x0 : Addr) : entryFrame m #[(.ref x0)] 7 = mkF m 0 #[.val (.ref x0), .unset, .unset, .unset, .unset, .unset, .unset] [] := by first | (simp [entryFrame, mkF, argsToLocals, Value.category]; done) | rfl
set_option maxRecDepth 65536 in
set_option maxHeartbeats 40000000 in
theorem rmO5 (l : Launch) (Z : State) (a0 : Array Value) (hw : ∀ d ∈ tables_1, d.before a0 Z = true) (oa : Addr) (K : Int32 → Int32) (kA vA : Addr) (i0 i1 i2 i3 i4 : Int32) (h0 : Heap) (H0 : HS Z h0 oa kA vA K [i0, i1, i2, i3, i4]) (Q0 : own_ord K [i0, i1, i2, i3, i4]) :
    Con l (⟨"com/example/hourline/hourline/engine/MinHeap", "pop", "()I"⟩ : MethodName) prog_36_method_5_code 7 (some .int) [] ({ frames := 0, cells := 0, slots := 0, locals := 0 } : Room) #[(.ref oa)] Z h0 (fun v h L => v = some (.int i0) ∧ Ok h0 h [oa, kA, vA] L ∧ ∃ is, HS Z h oa kA vA K is ∧ (i0 :: is).Perm [i0, i1, i2, i3, i4] ∧ own_ord K is ∧ ∀ j ∈ is, (K i0).toInt ≤ (K j).toInt) := by
  refine Con.of (plainFor_of_name pn_1) ?_
  intro p e s m below meth c s₁ hx hZ hby hml hown hnm hret hlk X0 e0
  refine Ends.cast (efO5 m oa) ?_
  show Ends p e below s _ _ _ s₁ (mkF m 0 #[.val (.ref oa), .unset, .unset, .unset, .unset, .unset, .unset] [])
  have O0 := Ok.refl h0 [oa, kA, vA]
  obtain ⟨E0, F_k, F_v, F_s, ⟨rk, A_k, hrk⟩, ⟨rv, A_v, hrv⟩, hne, hoa, hob⟩ := H0
  have A_k' : Ary Z h0 kA .double ((.double (FP.i2d (K i0))) :: (.double (FP.i2d (K i1))) :: (.double (FP.i2d (K i2))) :: (.double (FP.i2d (K i3))) :: (.double (FP.i2d (K i4))) :: rk) := A_k
  have A_v' : Ary Z h0 vA .int ((.int i0) :: (.int i1) :: (.int i2) :: (.int i3) :: (.int i4) :: rv) := A_v
  have F_s' : Fld Z h0 oa "com/example/hourline/hourline/engine/MinHeap" "size" "I" (.int (5 : Int32)) := F_s
  refine E.aloadN (q := 1) X0 hx (hb hby d4_0) rfl rfl ?_
  refine Ends.getF X0 hx hZ hown (host := "") (Or.inl (hw _ (List.mem_of_getElem? (i := 13) rfl))) Via.refl e0 F_v (hb hby d4_1) ?_
  intro T571 X571 e571
  refine E.iconst (q := 5) (v := (0 : Int32)) X571 hx (hb hby d4_4) rfl ?_
  refine Ends.ild X571 hx hZ e571 A_v' (i := 0) rfl rfl (hb hby d4_5) ?_
  refine E.istoreN (q := 7) (l' := #[.val (.ref oa), .val (.int i0), .unset, .unset, .unset, .unset, .unset]) X571 hx (hb hby d4_6) rfl ?_
  refine E.aloadN (q := 8) X571 hx (hb hby d4_7) rfl rfl ?_
  refine Ends.getF X571 hx hZ hown (host := "") (Or.inl (hw _ (List.mem_of_getElem? (i := 10) rfl))) Via.refl e571 F_k (hb hby d4_8) ?_
  intro T572 X572 e572
  refine E.aloadN (q := 12) X572 hx (hb hby d4_11) rfl rfl ?_
  refine E.dup (q := 13) X572 hx (hb hby d4_12) rfl ?_
  refine Ends.getF X572 hx hZ hown (host := "") (Or.inl (hw _ (List.mem_of_getElem? (i := 20) rfl))) Via.refl e572 F_s' (hb hby d4_13) ?_
  intro T573 X573 e573
  refine E.iconst (q := 17) (v := (1 : Int32)) X573 hx (hb hby d4_16) rfl ?_
  refine E.isub (q := 18) X573 hx (hb hby d4_17) ?_
  rw [show ((5 : Int32) - (1 : Int32)) = (4 : Int32) from by decide]
  refine E.dupX1 (q := 19) X573 hx (hb hby d4_18) rfl rfl ?_
  refine Ends.putF X573 hx hZ hown (host := "") (Or.inl (hw _ (List.mem_of_getElem? (i := 20) rfl))) Via.refl e573 F_s' E0 (Or.inl (hw _ (List.mem_of_getElem? (i := 21) rfl))) (hw _ (List.mem_of_getElem? (i := 2) rfl)) (ty := .int) (by decide) rfl rfl (hb hby d4_19) ?_
  intro T574 h574 X574 e574 W574 Fw574
  have O574 := O0.wr W574 (Or.inl (List.mem_of_getElem? (i := 0) rfl))
  have f575 := A_k'.other W574 (Ne.symm hoa)
  refine Ends.dld X574 hx hZ e574 f575 (i := 4) rfl rfl (hb hby d4_22) ?_
  refine E.dstoreN (q := 24) (l' := #[.val (.ref oa), .val (.int i0), .val (.double (FP.i2d (K i4))), .second, .unset, .unset, .unset]) X574 hx (hb hby d4_23) rfl ?_
  refine E.aloadN (q := 25) X574 hx (hb hby d4_24) rfl rfl ?_
  have f576 := F_v.other W574 (Or.inr (slot_ne (Or.inl (hw _ (List.mem_of_getElem? (i := 14) rfl))) (Or.inl (hw _ (List.mem_of_getElem? (i := 21) rfl))) (by decide) (t := (.array .int)) (t' := .int) (by decide) (by decide)))
  refine Ends.getF X574 hx hZ hown (host := "") (Or.inl (hw _ (List.mem_of_getElem? (i := 13) rfl))) Via.refl e574 f576 (hb hby d4_25) ?_
  intro T577 X577 e577
  refine E.aloadN (q := 29) X577 hx (hb hby d4_28) rfl rfl ?_
  refine Ends.getF X577 hx hZ hown (host := "") (Or.inl (hw _ (List.mem_of_getElem? (i := 20) rfl))) Via.refl e577 Fw574 (hb hby d4_29) ?_
  intro T578 X578 e578
  have f579 := A_v'.other W574 (Ne.symm hob)
  refine Ends.ild X578 hx hZ e578 f579 (i := 4) rfl rfl (hb hby d4_32) ?_
  refine E.istore (q := 35) (l' := #[.val (.ref oa), .val (.int i0), .val (.double (FP.i2d (K i4))), .second, .val (.int i4), .unset, .unset]) X578 hx (hb hby d4_33) rfl ?_
  refine E.iconst (q := 36) (v := (0 : Int32)) X578 hx (hb hby d4_35) rfl ?_
  refine E.istore (q := 38) (l' := #[.val (.ref oa), .val (.int i0), .val (.double (FP.i2d (K i4))), .second, .val (.int i4), .val (.int (0 : Int32)), .unset]) X578 hx (hb hby d4_36) rfl ?_
  refine E.iconst (q := 39) (v := (2 : Int32)) X578 hx (hb hby d4_38) rfl ?_
  refine E.iload (q := 41) X578 hx (hb hby d4_39) rfl ?_
  refine E.imul (q := 42) X578 hx (hb hby d4_41) ?_
  rw [show ((2 : Int32) * (0 : Int32)) = (0 : Int32) from by decide]
  refine E.iconst (q := 43) (v := (1 : Int32)) X578 hx (hb hby d4_42) rfl ?_
  refine E.iadd (q := 44) X578 hx (hb hby d4_43) ?_
  rw [show ((0 : Int32) + (1 : Int32)) = (1 : Int32) from by decide]
  refine E.aloadN (q := 45) X578 hx (hb hby d4_44) rfl rfl ?_
  refine Ends.getF X578 hx hZ hown (host := "") (Or.inl (hw _ (List.mem_of_getElem? (i := 20) rfl))) Via.refl e578 Fw574 (hb hby d4_45) ?_
  intro T580 X580 e580
  refine E.icmpN (q := 51) X580 hx (hb hby d4_48) (XT.ii_ge_f (by decide)) ?_
  refine E.iconst (q := 52) (v := (2 : Int32)) X580 hx (hb hby d4_51) rfl ?_
  refine E.iload (q := 54) X580 hx (hb hby d4_52) rfl ?_
  refine E.imul (q := 55) X580 hx (hb hby d4_54) ?_
  rw [show ((2 : Int32) * (0 : Int32)) = (0 : Int32) from by decide]
  refine E.iconst (q := 56) (v := (1 : Int32)) X580 hx (hb hby d4_55) rfl ?_
  refine E.iadd (q := 57) X580 hx (hb hby d4_56) ?_
  rw [show ((0 : Int32) + (1 : Int32)) = (1 : Int32) from by decide]
  refine E.istore (q := 59) (l' := #[.val (.ref oa), .val (.int i0), .val (.double (FP.i2d (K i4))), .second, .val (.int i4), .val (.int (0 : Int32)), .val (.int (1 : Int32))]) X580 hx (hb hby d4_57) rfl ?_
  refine E.iload (q := 61) X580 hx (hb hby d4_59) rfl ?_
  refine E.iconst (q := 62) (v := (1 : Int32)) X580 hx (hb hby d4_61) rfl ?_
  refine E.iadd (q := 63) X580 hx (hb hby d4_62) ?_
  rw [show ((1 : Int32) + (1 : Int32)) = (2 : Int32) from by decide]
  refine E.aloadN (q := 64) X580 hx (hb hby d4_63) rfl rfl ?_
  refine Ends.getF X580 hx hZ hown (host := "") (Or.inl (hw _ (List.mem_of_getElem? (i := 20) rfl))) Via.refl e580 Fw574 (hb hby d4_64) ?_
  intro T581 X581 e581
  refine E.icmpN (q := 70) X581 hx (hb hby d4_67) (XT.ii_ge_f (by decide)) ?_
  refine E.aloadN (q := 71) X581 hx (hb hby d4_70) rfl rfl ?_
  have f582 := F_k.other W574 (Or.inr (slot_ne (Or.inl (hw _ (List.mem_of_getElem? (i := 11) rfl))) (Or.inl (hw _ (List.mem_of_getElem? (i := 21) rfl))) (by decide) (t := (.array .double)) (t' := .int) (by decide) (by decide)))
  refine Ends.getF X581 hx hZ hown (host := "") (Or.inl (hw _ (List.mem_of_getElem? (i := 10) rfl))) Via.refl e581 f582 (hb hby d4_71) ?_
  intro T583 X583 e583
  refine E.iload (q := 76) X583 hx (hb hby d4_74) rfl ?_
  refine E.iconst (q := 77) (v := (1 : Int32)) X583 hx (hb hby d4_76) rfl ?_
  refine E.iadd (q := 78) X583 hx (hb hby d4_77) ?_
  rw [show ((1 : Int32) + (1 : Int32)) = (2 : Int32) from by decide]
  refine Ends.dld X583 hx hZ e583 f575 (i := 2) rfl rfl (hb hby d4_78) ?_
  refine E.aloadN (q := 80) X583 hx (hb hby d4_79) rfl rfl ?_
  refine Ends.getF X583 hx hZ hown (host := "") (Or.inl (hw _ (List.mem_of_getElem? (i := 10) rfl))) Via.refl e583 f582 (hb hby d4_80) ?_
  intro T584 X584 e584
  refine E.iload (q := 85) X584 hx (hb hby d4_83) rfl ?_
  refine Ends.dld X584 hx hZ e584 f575 (i := 1) rfl rfl (hb hby d4_85) ?_
  refine E.dcmp (q := 87) X584 hx (hb hby d4_86) ?_
  rw [own_dc]
  by_cases hq11 : (K i2).toInt < (K i1).toInt
  · refine E.ifN (q := 90) X584 hx (hb hby d4_87) (XT.i0_ge_f ((own_c_lt _ _).mpr hq11)) ?_
    refine E.iinc (q := 93) (v := (2 : Int32)) (l' := #[.val (.ref oa), .val (.int i0), .val (.double (FP.i2d (K i4))), .second, .val (.int i4), .val (.int (0 : Int32)), .val (.int (2 : Int32))]) X584 hx (hb hby d4_90) rfl (by decide) rfl ?_
    refine E.aloadN (q := 94) X584 hx (hb hby d4_93) rfl rfl ?_
    refine Ends.getF X584 hx hZ hown (host := "") (Or.inl (hw _ (List.mem_of_getElem? (i := 10) rfl))) Via.refl e584 f582 (hb hby d4_94) ?_
    intro T585 X585 e585
    refine E.iload (q := 99) X585 hx (hb hby d4_97) rfl ?_
    refine Ends.dld X585 hx hZ e585 f575 (i := 2) rfl rfl (hb hby d4_99) ?_
    refine E.dloadN (q := 101) X585 hx (hb hby d4_100) rfl ?_
    refine E.dcmp (q := 102) X585 hx (hb hby d4_101) ?_
    rw [own_dc]
    by_cases hq12 : (K i2).toInt < (K i4).toInt
    · refine E.ifY (q := 108) X585 hx (hb hby d4_102) (XT.i0_lt_t ((own_c_lt _ _).mpr hq12)) ?_
      refine E.aloadN (q := 109) X585 hx (hb hby d4_108) rfl rfl ?_
      refine Ends.getF X585 hx hZ hown (host := "") (Or.inl (hw _ (List.mem_of_getElem? (i := 10) rfl))) Via.refl e585 f582 (hb hby d4_109) ?_
      intro T586 X586 e586
      refine E.iload (q := 114) X586 hx (hb hby d4_112) rfl ?_
      refine E.aloadN (q := 115) X586 hx (hb hby d4_114) rfl rfl ?_
      refine Ends.getF X586 hx hZ hown (host := "") (Or.inl (hw _ (List.mem_of_getElem? (i := 10) rfl))) Via.refl e586 f582 (hb hby d4_115) ?_
      intro T587 X587 e587
      refine E.iload (q := 120) X587 hx (hb hby d4_118) rfl ?_
      refine Ends.dld X587 hx hZ e587 f575 (i := 2) rfl rfl (hb hby d4_120) ?_
      refine Ends.dst X587 hx hZ e587 f575 (i := 0) rfl (by simp only [List.length_cons]; omega) (hb hby d4_121) ?_
      intro T588 h588 X588 e588 W588 V588
      have V588 : Ary Z h588 kA .double ((.double (FP.i2d (K i2))) :: (.double (FP.i2d (K i1))) :: (.double (FP.i2d (K i2))) :: (.double (FP.i2d (K i3))) :: (.double (FP.i2d (K i4))) :: rk) := V588
      have O588 := O574.wr W588 (Or.inl (List.mem_of_getElem? (i := 1) rfl))
      refine E.aloadN (q := 123) X588 hx (hb hby d4_122) rfl rfl ?_
      have f589 := f576.other W588 (Or.inl hoa)
      refine Ends.getF X588 hx hZ hown (host := "") (Or.inl (hw _ (List.mem_of_getElem? (i := 13) rfl))) Via.refl e588 f589 (hb hby d4_123) ?_
      intro T590 X590 e590
      refine E.iload (q := 128) X590 hx (hb hby d4_126) rfl ?_
      refine E.aloadN (q := 129) X590 hx (hb hby d4_128) rfl rfl ?_
      refine Ends.getF X590 hx hZ hown (host := "") (Or.inl (hw _ (List.mem_of_getElem? (i := 13) rfl))) Via.refl e590 f589 (hb hby d4_129) ?_
      intro T591 X591 e591
      refine E.iload (q := 134) X591 hx (hb hby d4_132) rfl ?_
      have f592 := f579.other W588 (Ne.symm hne)
      refine Ends.ild X591 hx hZ e591 f592 (i := 2) rfl rfl (hb hby d4_134) ?_
      refine Ends.ist X591 hx hZ e591 f592 (i := 0) rfl (by simp only [List.length_cons]; omega) (hb hby d4_135) ?_
      intro T593 h593 X593 e593 W593 V593
      have V593 : Ary Z h593 vA .int ((.int i2) :: (.int i1) :: (.int i2) :: (.int i3) :: (.int i4) :: rv) := V593
      have O593 := O588.wr W593 (Or.inl (List.mem_of_getElem? (i := 2) rfl))
      refine E.iload (q := 138) X593 hx (hb hby d4_136) rfl ?_
      refine E.istore (q := 140) (l' := #[.val (.ref oa), .val (.int i0), .val (.double (FP.i2d (K i4))), .second, .val (.int i4), .val (.int (2 : Int32)), .val (.int (2 : Int32))]) X593 hx (hb hby d4_138) rfl ?_
      refine E.goto (q := 38) X593 hx (hb hby d4_140) ?_
      refine E.iconst (q := 39) (v := (2 : Int32)) X593 hx (hb hby d4_38) rfl ?_
      refine E.iload (q := 41) X593 hx (hb hby d4_39) rfl ?_
      refine E.imul (q := 42) X593 hx (hb hby d4_41) ?_
      rw [show ((2 : Int32) * (2 : Int32)) = (4 : Int32) from by decide]
      refine E.iconst (q := 43) (v := (1 : Int32)) X593 hx (hb hby d4_42) rfl ?_
      refine E.iadd (q := 44) X593 hx (hb hby d4_43) ?_
      rw [show ((4 : Int32) + (1 : Int32)) = (5 : Int32) from by decide]
      refine E.aloadN (q := 45) X593 hx (hb hby d4_44) rfl rfl ?_
      have f594 := Fw574.other W588 (Or.inl hoa)
      have f595 := f594.other W593 (Or.inl hob)
      refine Ends.getF X593 hx hZ hown (host := "") (Or.inl (hw _ (List.mem_of_getElem? (i := 20) rfl))) Via.refl e593 f595 (hb hby d4_45) ?_
      intro T596 X596 e596
      refine E.icmpY (q := 143) X596 hx (hb hby d4_48) (XT.ii_ge_t (by decide)) ?_
      refine E.aloadN (q := 144) X596 hx (hb hby d4_143) rfl rfl ?_
      have f597 := f582.other W588 (Or.inl hoa)
      have f598 := f597.other W593 (Or.inl hob)
      refine Ends.getF X596 hx hZ hown (host := "") (Or.inl (hw _ (List.mem_of_getElem? (i := 10) rfl))) Via.refl e596 f598 (hb hby d4_144) ?_
      intro T599 X599 e599
      refine E.iload (q := 149) X599 hx (hb hby d4_147) rfl ?_
      refine E.dloadN (q := 150) X599 hx (hb hby d4_149) rfl ?_
      have f600 := V588.other W593 hne
      refine Ends.dst X599 hx hZ e599 f600 (i := 2) rfl (by simp only [List.length_cons]; omega) (hb hby d4_150) ?_
      intro T601 h601 X601 e601 W601 V601
      have V601 : Ary Z h601 kA .double ((.double (FP.i2d (K i2))) :: (.double (FP.i2d (K i1))) :: (.double (FP.i2d (K i4))) :: (.double (FP.i2d (K i3))) :: (.double (FP.i2d (K i4))) :: rk) := V601
      have O601 := O593.wr W601 (Or.inl (List.mem_of_getElem? (i := 1) rfl))
      refine E.aloadN (q := 152) X601 hx (hb hby d4_151) rfl rfl ?_
      have f602 := f589.other W593 (Or.inl hob)
      have f603 := f602.other W601 (Or.inl hoa)
      refine Ends.getF X601 hx hZ hown (host := "") (Or.inl (hw _ (List.mem_of_getElem? (i := 13) rfl))) Via.refl e601 f603 (hb hby d4_152) ?_
      intro T604 X604 e604
      refine E.iload (q := 157) X604 hx (hb hby d4_155) rfl ?_
      refine E.iload (q := 159) X604 hx (hb hby d4_157) rfl ?_
      have f605 := V593.other W601 (Ne.symm hne)
      refine Ends.ist X604 hx hZ e604 f605 (i := 2) rfl (by simp only [List.length_cons]; omega) (hb hby d4_159) ?_
      intro T606 h606 X606 e606 W606 V606
      have V606 : Ary Z h606 vA .int ((.int i2) :: (.int i1) :: (.int i4) :: (.int i3) :: (.int i4) :: rv) := V606
      have O606 := O601.wr W606 (Or.inl (List.mem_of_getElem? (i := 2) rfl))
      refine E.iloadN (q := 161) X606 hx (hb hby d4_160) rfl ?_
      have f607 := E0.wr W574
      have f608 := f607.wr W588
      have f609 := f608.wr W593
      have f610 := f609.wr W601
      have f611 := f610.wr W606
      have f612 := f598.other W601 (Or.inl hoa)
      have f613 := f612.other W606 (Or.inl hob)
      have f614 := f603.other W606 (Or.inl hob)
      have f615 := f595.other W601 (Or.inl hoa)
      have f616 := f615.other W606 (Or.inl hob)
      have f617 := V601.other W606 hne
      subst e606
      exact Ends.retI X606 hx hlk hret (hb hby d4_161) (by decide) (by decide) ⟨rfl, O606, [i2, i1, i4, i3], ⟨f611, f613, f614, f616, ⟨_ :: _, f617, by simp only [List.length_cons, List.length_nil] at *; omega⟩, ⟨_ :: _, V606, by simp only [List.length_cons, List.length_nil] at *; omega⟩, hne, hoa, hob⟩, (List.perm_iff_count.mpr fun z => by simp only [List.count_cons, List.count_nil] <;> ac_rfl), by simp only [own_ord] at * <;> omega, by simp only [own_ord] at Q0; simp only [List.mem_cons, List.not_mem_nil, or_false, false_or]; intro j hj; rcases hj with rfl | rfl | rfl | rfl <;> omega⟩
    · refine E.ifN (q := 105) X585 hx (hb hby d4_102) (XT.i0_lt_f (fun q => hq12 ((own_c_lt _ _).mp q))) ?_
      refine E.goto (q := 143) X585 hx (hb hby d4_105) ?_
      refine E.aloadN (q := 144) X585 hx (hb hby d4_143) rfl rfl ?_
      refine Ends.getF X585 hx hZ hown (host := "") (Or.inl (hw _ (List.mem_of_getElem? (i := 10) rfl))) Via.refl e585 f582 (hb hby d4_144) ?_
      intro T618 X618 e618
      refine E.iload (q := 149) X618 hx (hb hby d4_147) rfl ?_
      refine E.dloadN (q := 150) X618 hx (hb hby d4_149) rfl ?_
      refine Ends.dst X618 hx hZ e618 f575 (i := 0) rfl (by simp only [List.length_cons]; omega) (hb hby d4_150) ?_
      intro T619 h619 X619 e619 W619 V619
      have V619 : Ary Z h619 kA .double ((.double (FP.i2d (K i4))) :: (.double (FP.i2d (K i1))) :: (.double (FP.i2d (K i2))) :: (.double (FP.i2d (K i3))) :: (.double (FP.i2d (K i4))) :: rk) := V619
      have O619 := O574.wr W619 (Or.inl (List.mem_of_getElem? (i := 1) rfl))
      refine E.aloadN (q := 152) X619 hx (hb hby d4_151) rfl rfl ?_
      have f620 := f576.other W619 (Or.inl hoa)
      refine Ends.getF X619 hx hZ hown (host := "") (Or.inl (hw _ (List.mem_of_getElem? (i := 13) rfl))) Via.refl e619 f620 (hb hby d4_152) ?_
      intro T621 X621 e621
      refine E.iload (q := 157) X621 hx (hb hby d4_155) rfl ?_
      refine E.iload (q := 159) X621 hx (hb hby d4_157) rfl ?_
      have f622 := f579.other W619 (Ne.symm hne)
      refine Ends.ist X621 hx hZ e621 f622 (i := 0) rfl (by simp only [List.length_cons]; omega) (hb hby d4_159) ?_
      intro T623 h623 X623 e623 W623 V623
      have V623 : Ary Z h623 vA .int ((.int i4) :: (.int i1) :: (.int i2) :: (.int i3) :: (.int i4) :: rv) := V623
      have O623 := O619.wr W623 (Or.inl (List.mem_of_getElem? (i := 2) rfl))
      refine E.iloadN (q := 161) X623 hx (hb hby d4_160) rfl ?_
      have f624 := E0.wr W574
      have f625 := f624.wr W619
      have f626 := f625.wr W623
      have f627 := f582.other W619 (Or.inl hoa)
      have f628 := f627.other W623 (Or.inl hob)
      have f629 := f620.other W623 (Or.inl hob)
      have f630 := Fw574.other W619 (Or.inl hoa)
      have f631 := f630.other W623 (Or.inl hob)
      have f632 := V619.other W623 hne
      subst e623
      exact Ends.retI X623 hx hlk hret (hb hby d4_161) (by decide) (by decide) ⟨rfl, O623, [i4, i1, i2, i3], ⟨f626, f628, f629, f631, ⟨_ :: _, f632, by simp only [List.length_cons, List.length_nil] at *; omega⟩, ⟨_ :: _, V623, by simp only [List.length_cons, List.length_nil] at *; omega⟩, hne, hoa, hob⟩, (List.perm_iff_count.mpr fun z => by simp only [List.count_cons, List.count_nil] <;> ac_rfl), by simp only [own_ord] at * <;> omega, by simp only [own_ord] at Q0; simp only [List.mem_cons, List.not_mem_nil, or_false, false_or]; intro j hj; rcases hj with rfl | rfl | rfl | rfl <;> omega⟩
  · refine E.ifY (q := 93) X584 hx (hb hby d4_87) (XT.i0_ge_t (fun q => hq11 ((own_c_lt _ _).mp q))) ?_
    refine E.aloadN (q := 94) X584 hx (hb hby d4_93) rfl rfl ?_
    refine Ends.getF X584 hx hZ hown (host := "") (Or.inl (hw _ (List.mem_of_getElem? (i := 10) rfl))) Via.refl e584 f582 (hb hby d4_94) ?_
    intro T633 X633 e633
    refine E.iload (q := 99) X633 hx (hb hby d4_97) rfl ?_
    refine Ends.dld X633 hx hZ e633 f575 (i := 1) rfl rfl (hb hby d4_99) ?_
    refine E.dloadN (q := 101) X633 hx (hb hby d4_100) rfl ?_
    refine E.dcmp (q := 102) X633 hx (hb hby d4_101) ?_
    rw [own_dc]
    by_cases hq13 : (K i1).toInt < (K i4).toInt
    · refine E.ifY (q := 108) X633 hx (hb hby d4_102) (XT.i0_lt_t ((own_c_lt _ _).mpr hq13)) ?_
      refine E.aloadN (q := 109) X633 hx (hb hby d4_108) rfl rfl ?_
      refine Ends.getF X633 hx hZ hown (host := "") (Or.inl (hw _ (List.mem_of_getElem? (i := 10) rfl))) Via.refl e633 f582 (hb hby d4_109) ?_
      intro T634 X634 e634
      refine E.iload (q := 114) X634 hx (hb hby d4_112) rfl ?_
      refine E.aloadN (q := 115) X634 hx (hb hby d4_114) rfl rfl ?_
      refine Ends.getF X634 hx hZ hown (host := "") (Or.inl (hw _ (List.mem_of_getElem? (i := 10) rfl))) Via.refl e634 f582 (hb hby d4_115) ?_
      intro T635 X635 e635
      refine E.iload (q := 120) X635 hx (hb hby d4_118) rfl ?_
      refine Ends.dld X635 hx hZ e635 f575 (i := 1) rfl rfl (hb hby d4_120) ?_
      refine Ends.dst X635 hx hZ e635 f575 (i := 0) rfl (by simp only [List.length_cons]; omega) (hb hby d4_121) ?_
      intro T636 h636 X636 e636 W636 V636
      have V636 : Ary Z h636 kA .double ((.double (FP.i2d (K i1))) :: (.double (FP.i2d (K i1))) :: (.double (FP.i2d (K i2))) :: (.double (FP.i2d (K i3))) :: (.double (FP.i2d (K i4))) :: rk) := V636
      have O636 := O574.wr W636 (Or.inl (List.mem_of_getElem? (i := 1) rfl))
      refine E.aloadN (q := 123) X636 hx (hb hby d4_122) rfl rfl ?_
      have f637 := f576.other W636 (Or.inl hoa)
      refine Ends.getF X636 hx hZ hown (host := "") (Or.inl (hw _ (List.mem_of_getElem? (i := 13) rfl))) Via.refl e636 f637 (hb hby d4_123) ?_
      intro T638 X638 e638
      refine E.iload (q := 128) X638 hx (hb hby d4_126) rfl ?_
      refine E.aloadN (q := 129) X638 hx (hb hby d4_128) rfl rfl ?_
      refine Ends.getF X638 hx hZ hown (host := "") (Or.inl (hw _ (List.mem_of_getElem? (i := 13) rfl))) Via.refl e638 f637 (hb hby d4_129) ?_
      intro T639 X639 e639
      refine E.iload (q := 134) X639 hx (hb hby d4_132) rfl ?_
      have f640 := f579.other W636 (Ne.symm hne)
      refine Ends.ild X639 hx hZ e639 f640 (i := 1) rfl rfl (hb hby d4_134) ?_
      refine Ends.ist X639 hx hZ e639 f640 (i := 0) rfl (by simp only [List.length_cons]; omega) (hb hby d4_135) ?_
      intro T641 h641 X641 e641 W641 V641
      have V641 : Ary Z h641 vA .int ((.int i1) :: (.int i1) :: (.int i2) :: (.int i3) :: (.int i4) :: rv) := V641
      have O641 := O636.wr W641 (Or.inl (List.mem_of_getElem? (i := 2) rfl))
      refine E.iload (q := 138) X641 hx (hb hby d4_136) rfl ?_
      refine E.istore (q := 140) (l' := #[.val (.ref oa), .val (.int i0), .val (.double (FP.i2d (K i4))), .second, .val (.int i4), .val (.int (1 : Int32)), .val (.int (1 : Int32))]) X641 hx (hb hby d4_138) rfl ?_
      refine E.goto (q := 38) X641 hx (hb hby d4_140) ?_
      refine E.iconst (q := 39) (v := (2 : Int32)) X641 hx (hb hby d4_38) rfl ?_
      refine E.iload (q := 41) X641 hx (hb hby d4_39) rfl ?_
      refine E.imul (q := 42) X641 hx (hb hby d4_41) ?_
      rw [show ((2 : Int32) * (1 : Int32)) = (2 : Int32) from by decide]
      refine E.iconst (q := 43) (v := (1 : Int32)) X641 hx (hb hby d4_42) rfl ?_
      refine E.iadd (q := 44) X641 hx (hb hby d4_43) ?_
      rw [show ((2 : Int32) + (1 : Int32)) = (3 : Int32) from by decide]
      refine E.aloadN (q := 45) X641 hx (hb hby d4_44) rfl rfl ?_
      have f642 := Fw574.other W636 (Or.inl hoa)
      have f643 := f642.other W641 (Or.inl hob)
      refine Ends.getF X641 hx hZ hown (host := "") (Or.inl (hw _ (List.mem_of_getElem? (i := 20) rfl))) Via.refl e641 f643 (hb hby d4_45) ?_
      intro T644 X644 e644
      refine E.icmpN (q := 51) X644 hx (hb hby d4_48) (XT.ii_ge_f (by decide)) ?_
      refine E.iconst (q := 52) (v := (2 : Int32)) X644 hx (hb hby d4_51) rfl ?_
      refine E.iload (q := 54) X644 hx (hb hby d4_52) rfl ?_
      refine E.imul (q := 55) X644 hx (hb hby d4_54) ?_
      rw [show ((2 : Int32) * (1 : Int32)) = (2 : Int32) from by decide]
      refine E.iconst (q := 56) (v := (1 : Int32)) X644 hx (hb hby d4_55) rfl ?_
      refine E.iadd (q := 57) X644 hx (hb hby d4_56) ?_
      rw [show ((2 : Int32) + (1 : Int32)) = (3 : Int32) from by decide]
      refine E.istore (q := 59) (l' := #[.val (.ref oa), .val (.int i0), .val (.double (FP.i2d (K i4))), .second, .val (.int i4), .val (.int (1 : Int32)), .val (.int (3 : Int32))]) X644 hx (hb hby d4_57) rfl ?_
      refine E.iload (q := 61) X644 hx (hb hby d4_59) rfl ?_
      refine E.iconst (q := 62) (v := (1 : Int32)) X644 hx (hb hby d4_61) rfl ?_
      refine E.iadd (q := 63) X644 hx (hb hby d4_62) ?_
      rw [show ((3 : Int32) + (1 : Int32)) = (4 : Int32) from by decide]
      refine E.aloadN (q := 64) X644 hx (hb hby d4_63) rfl rfl ?_
      refine Ends.getF X644 hx hZ hown (host := "") (Or.inl (hw _ (List.mem_of_getElem? (i := 20) rfl))) Via.refl e644 f643 (hb hby d4_64) ?_
      intro T645 X645 e645
      refine E.icmpY (q := 93) X645 hx (hb hby d4_67) (XT.ii_ge_t (by decide)) ?_
      refine E.aloadN (q := 94) X645 hx (hb hby d4_93) rfl rfl ?_
      have f646 := f582.other W636 (Or.inl hoa)
      have f647 := f646.other W641 (Or.inl hob)
      refine Ends.getF X645 hx hZ hown (host := "") (Or.inl (hw _ (List.mem_of_getElem? (i := 10) rfl))) Via.refl e645 f647 (hb hby d4_94) ?_
      intro T648 X648 e648
      refine E.iload (q := 99) X648 hx (hb hby d4_97) rfl ?_
      have f649 := V636.other W641 hne
      refine Ends.dld X648 hx hZ e648 f649 (i := 3) rfl rfl (hb hby d4_99) ?_
      refine E.dloadN (q := 101) X648 hx (hb hby d4_100) rfl ?_
      refine E.dcmp (q := 102) X648 hx (hb hby d4_101) ?_
      rw [own_dc]
      by_cases hq14 : (K i3).toInt < (K i4).toInt
      · refine E.ifY (q := 108) X648 hx (hb hby d4_102) (XT.i0_lt_t ((own_c_lt _ _).mpr hq14)) ?_
        refine E.aloadN (q := 109) X648 hx (hb hby d4_108) rfl rfl ?_
        refine Ends.getF X648 hx hZ hown (host := "") (Or.inl (hw _ (List.mem_of_getElem? (i := 10) rfl))) Via.refl e648 f647 (hb hby d4_109) ?_
        intro T650 X650 e650
        refine E.iload (q := 114) X650 hx (hb hby d4_112) rfl ?_
        refine E.aloadN (q := 115) X650 hx (hb hby d4_114) rfl rfl ?_
        refine Ends.getF X650 hx hZ hown (host := "") (Or.inl (hw _ (List.mem_of_getElem? (i := 10) rfl))) Via.refl e650 f647 (hb hby d4_115) ?_
        intro T651 X651 e651
        refine E.iload (q := 120) X651 hx (hb hby d4_118) rfl ?_
        refine Ends.dld X651 hx hZ e651 f649 (i := 3) rfl rfl (hb hby d4_120) ?_
        refine Ends.dst X651 hx hZ e651 f649 (i := 1) rfl (by simp only [List.length_cons]; omega) (hb hby d4_121) ?_
        intro T652 h652 X652 e652 W652 V652
        have V652 : Ary Z h652 kA .double ((.double (FP.i2d (K i1))) :: (.double (FP.i2d (K i3))) :: (.double (FP.i2d (K i2))) :: (.double (FP.i2d (K i3))) :: (.double (FP.i2d (K i4))) :: rk) := V652
        have O652 := O641.wr W652 (Or.inl (List.mem_of_getElem? (i := 1) rfl))
        refine E.aloadN (q := 123) X652 hx (hb hby d4_122) rfl rfl ?_
        have f653 := f637.other W641 (Or.inl hob)
        have f654 := f653.other W652 (Or.inl hoa)
        refine Ends.getF X652 hx hZ hown (host := "") (Or.inl (hw _ (List.mem_of_getElem? (i := 13) rfl))) Via.refl e652 f654 (hb hby d4_123) ?_
        intro T655 X655 e655
        refine E.iload (q := 128) X655 hx (hb hby d4_126) rfl ?_
        refine E.aloadN (q := 129) X655 hx (hb hby d4_128) rfl rfl ?_
        refine Ends.getF X655 hx hZ hown (host := "") (Or.inl (hw _ (List.mem_of_getElem? (i := 13) rfl))) Via.refl e655 f654 (hb hby d4_129) ?_
        intro T656 X656 e656
        refine E.iload (q := 134) X656 hx (hb hby d4_132) rfl ?_
        have f657 := V641.other W652 (Ne.symm hne)
        refine Ends.ild X656 hx hZ e656 f657 (i := 3) rfl rfl (hb hby d4_134) ?_
        refine Ends.ist X656 hx hZ e656 f657 (i := 1) rfl (by simp only [List.length_cons]; omega) (hb hby d4_135) ?_
        intro T658 h658 X658 e658 W658 V658
        have V658 : Ary Z h658 vA .int ((.int i1) :: (.int i3) :: (.int i2) :: (.int i3) :: (.int i4) :: rv) := V658
        have O658 := O652.wr W658 (Or.inl (List.mem_of_getElem? (i := 2) rfl))
        refine E.iload (q := 138) X658 hx (hb hby d4_136) rfl ?_
        refine E.istore (q := 140) (l' := #[.val (.ref oa), .val (.int i0), .val (.double (FP.i2d (K i4))), .second, .val (.int i4), .val (.int (3 : Int32)), .val (.int (3 : Int32))]) X658 hx (hb hby d4_138) rfl ?_
        refine E.goto (q := 38) X658 hx (hb hby d4_140) ?_
        refine E.iconst (q := 39) (v := (2 : Int32)) X658 hx (hb hby d4_38) rfl ?_
        refine E.iload (q := 41) X658 hx (hb hby d4_39) rfl ?_
        refine E.imul (q := 42) X658 hx (hb hby d4_41) ?_
        rw [show ((2 : Int32) * (3 : Int32)) = (6 : Int32) from by decide]
        refine E.iconst (q := 43) (v := (1 : Int32)) X658 hx (hb hby d4_42) rfl ?_
        refine E.iadd (q := 44) X658 hx (hb hby d4_43) ?_
        rw [show ((6 : Int32) + (1 : Int32)) = (7 : Int32) from by decide]
        refine E.aloadN (q := 45) X658 hx (hb hby d4_44) rfl rfl ?_
        have f659 := f643.other W652 (Or.inl hoa)
        have f660 := f659.other W658 (Or.inl hob)
        refine Ends.getF X658 hx hZ hown (host := "") (Or.inl (hw _ (List.mem_of_getElem? (i := 20) rfl))) Via.refl e658 f660 (hb hby d4_45) ?_
        intro T661 X661 e661
        refine E.icmpY (q := 143) X661 hx (hb hby d4_48) (XT.ii_ge_t (by decide)) ?_
        refine E.aloadN (q := 144) X661 hx (hb hby d4_143) rfl rfl ?_
        have f662 := f647.other W652 (Or.inl hoa)
        have f663 := f662.other W658 (Or.inl hob)
        refine Ends.getF X661 hx hZ hown (host := "") (Or.inl (hw _ (List.mem_of_getElem? (i := 10) rfl))) Via.refl e661 f663 (hb hby d4_144) ?_
        intro T664 X664 e664
        refine E.iload (q := 149) X664 hx (hb hby d4_147) rfl ?_
        refine E.dloadN (q := 150) X664 hx (hb hby d4_149) rfl ?_
        have f665 := V652.other W658 hne
        refine Ends.dst X664 hx hZ e664 f665 (i := 3) rfl (by simp only [List.length_cons]; omega) (hb hby d4_150) ?_
        intro T666 h666 X666 e666 W666 V666
        have V666 : Ary Z h666 kA .double ((.double (FP.i2d (K i1))) :: (.double (FP.i2d (K i3))) :: (.double (FP.i2d (K i2))) :: (.double (FP.i2d (K i4))) :: (.double (FP.i2d (K i4))) :: rk) := V666
        have O666 := O658.wr W666 (Or.inl (List.mem_of_getElem? (i := 1) rfl))
        refine E.aloadN (q := 152) X666 hx (hb hby d4_151) rfl rfl ?_
        have f667 := f654.other W658 (Or.inl hob)
        have f668 := f667.other W666 (Or.inl hoa)
        refine Ends.getF X666 hx hZ hown (host := "") (Or.inl (hw _ (List.mem_of_getElem? (i := 13) rfl))) Via.refl e666 f668 (hb hby d4_152) ?_
        intro T669 X669 e669
        refine E.iload (q := 157) X669 hx (hb hby d4_155) rfl ?_
        refine E.iload (q := 159) X669 hx (hb hby d4_157) rfl ?_
        have f670 := V658.other W666 (Ne.symm hne)
        refine Ends.ist X669 hx hZ e669 f670 (i := 3) rfl (by simp only [List.length_cons]; omega) (hb hby d4_159) ?_
        intro T671 h671 X671 e671 W671 V671
        have V671 : Ary Z h671 vA .int ((.int i1) :: (.int i3) :: (.int i2) :: (.int i4) :: (.int i4) :: rv) := V671
        have O671 := O666.wr W671 (Or.inl (List.mem_of_getElem? (i := 2) rfl))
        refine E.iloadN (q := 161) X671 hx (hb hby d4_160) rfl ?_
        have f672 := E0.wr W574
        have f673 := f672.wr W636
        have f674 := f673.wr W641
        have f675 := f674.wr W652
        have f676 := f675.wr W658
        have f677 := f676.wr W666
        have f678 := f677.wr W671
        have f679 := f663.other W666 (Or.inl hoa)
        have f680 := f679.other W671 (Or.inl hob)
        have f681 := f668.other W671 (Or.inl hob)
        have f682 := f660.other W666 (Or.inl hoa)
        have f683 := f682.other W671 (Or.inl hob)
        have f684 := V666.other W671 hne
        subst e671
        exact Ends.retI X671 hx hlk hret (hb hby d4_161) (by decide) (by decide) ⟨rfl, O671, [i1, i3, i2, i4], ⟨f678, f680, f681, f683, ⟨_ :: _, f684, by simp only [List.length_cons, List.length_nil] at *; omega⟩, ⟨_ :: _, V671, by simp only [List.length_cons, List.length_nil] at *; omega⟩, hne, hoa, hob⟩, (List.perm_iff_count.mpr fun z => by simp only [List.count_cons, List.count_nil] <;> ac_rfl), by simp only [own_ord] at * <;> omega, by simp only [own_ord] at Q0; simp only [List.mem_cons, List.not_mem_nil, or_false, false_or]; intro j hj; rcases hj with rfl | rfl | rfl | rfl <;> omega⟩
      · refine E.ifN (q := 105) X648 hx (hb hby d4_102) (XT.i0_lt_f (fun q => hq14 ((own_c_lt _ _).mp q))) ?_
        refine E.goto (q := 143) X648 hx (hb hby d4_105) ?_
        refine E.aloadN (q := 144) X648 hx (hb hby d4_143) rfl rfl ?_
        refine Ends.getF X648 hx hZ hown (host := "") (Or.inl (hw _ (List.mem_of_getElem? (i := 10) rfl))) Via.refl e648 f647 (hb hby d4_144) ?_
        intro T685 X685 e685
        refine E.iload (q := 149) X685 hx (hb hby d4_147) rfl ?_
        refine E.dloadN (q := 150) X685 hx (hb hby d4_149) rfl ?_
        refine Ends.dst X685 hx hZ e685 f649 (i := 1) rfl (by simp only [List.length_cons]; omega) (hb hby d4_150) ?_
        intro T686 h686 X686 e686 W686 V686
        have V686 : Ary Z h686 kA .double ((.double (FP.i2d (K i1))) :: (.double (FP.i2d (K i4))) :: (.double (FP.i2d (K i2))) :: (.double (FP.i2d (K i3))) :: (.double (FP.i2d (K i4))) :: rk) := V686
        have O686 := O641.wr W686 (Or.inl (List.mem_of_getElem? (i := 1) rfl))
        refine E.aloadN (q := 152) X686 hx (hb hby d4_151) rfl rfl ?_
        have f687 := f637.other W641 (Or.inl hob)
        have f688 := f687.other W686 (Or.inl hoa)
        refine Ends.getF X686 hx hZ hown (host := "") (Or.inl (hw _ (List.mem_of_getElem? (i := 13) rfl))) Via.refl e686 f688 (hb hby d4_152) ?_
        intro T689 X689 e689
        refine E.iload (q := 157) X689 hx (hb hby d4_155) rfl ?_
        refine E.iload (q := 159) X689 hx (hb hby d4_157) rfl ?_
        have f690 := V641.other W686 (Ne.symm hne)
        refine Ends.ist X689 hx hZ e689 f690 (i := 1) rfl (by simp only [List.length_cons]; omega) (hb hby d4_159) ?_
        intro T691 h691 X691 e691 W691 V691
        have V691 : Ary Z h691 vA .int ((.int i1) :: (.int i4) :: (.int i2) :: (.int i3) :: (.int i4) :: rv) := V691
        have O691 := O686.wr W691 (Or.inl (List.mem_of_getElem? (i := 2) rfl))
        refine E.iloadN (q := 161) X691 hx (hb hby d4_160) rfl ?_
        have f692 := E0.wr W574
        have f693 := f692.wr W636
        have f694 := f693.wr W641
        have f695 := f694.wr W686
        have f696 := f695.wr W691
        have f697 := f647.other W686 (Or.inl hoa)
        have f698 := f697.other W691 (Or.inl hob)
        have f699 := f688.other W691 (Or.inl hob)
        have f700 := f643.other W686 (Or.inl hoa)
        have f701 := f700.other W691 (Or.inl hob)
        have f702 := V686.other W691 hne
        subst e691
        exact Ends.retI X691 hx hlk hret (hb hby d4_161) (by decide) (by decide) ⟨rfl, O691, [i1, i4, i2, i3], ⟨f696, f698, f699, f701, ⟨_ :: _, f702, by simp only [List.length_cons, List.length_nil] at *; omega⟩, ⟨_ :: _, V691, by simp only [List.length_cons, List.length_nil] at *; omega⟩, hne, hoa, hob⟩, (List.perm_iff_count.mpr fun z => by simp only [List.count_cons, List.count_nil] <;> ac_rfl), by simp only [own_ord] at * <;> omega, by simp only [own_ord] at Q0; simp only [List.mem_cons, List.not_mem_nil, or_false, false_or]; intro j hj; rcases hj with rfl | rfl | rfl | rfl <;> omega⟩
    · refine E.ifN (q := 105) X633 hx (hb hby d4_102) (XT.i0_lt_f (fun q => hq13 ((own_c_lt _ _).mp q))) ?_
      refine E.goto (q := 143) X633 hx (hb hby d4_105) ?_
      refine E.aloadN (q := 144) X633 hx (hb hby d4_143) rfl rfl ?_
      refine Ends.getF X633 hx hZ hown (host := "") (Or.inl (hw _ (List.mem_of_getElem? (i := 10) rfl))) Via.refl e633 f582 (hb hby d4_144) ?_
      intro T703 X703 e703
      refine E.iload (q := 149) X703 hx (hb hby d4_147) rfl ?_
      refine E.dloadN (q := 150) X703 hx (hb hby d4_149) rfl ?_
      refine Ends.dst X703 hx hZ e703 f575 (i := 0) rfl (by simp only [List.length_cons]; omega) (hb hby d4_150) ?_
      intro T704 h704 X704 e704 W704 V704
      have V704 : Ary Z h704 kA .double ((.double (FP.i2d (K i4))) :: (.double (FP.i2d (K i1))) :: (.double (FP.i2d (K i2))) :: (.double (FP.i2d (K i3))) :: (.double (FP.i2d (K i4))) :: rk) := V704
      have O704 := O574.wr W704 (Or.inl (List.mem_of_getElem? (i := 1) rfl))
      refine E.aloadN (q := 152) X704 hx (hb hby d4_151) rfl rfl ?_
      have f705 := f576.other W704 (Or.inl hoa)
      refine Ends.getF X704 hx hZ hown (host := "") (Or.inl (hw _ (List.mem_of_getElem? (i := 13) rfl))) Via.refl e704 f705 (hb hby d4_152) ?_
      intro T706 X706 e706
      refine E.iload (q := 157) X706 hx (hb hby d4_155) rfl ?_
      refine E.iload (q := 159) X706 hx (hb hby d4_157) rfl ?_
      have f707 := f579.other W704 (Ne.symm hne)
      refine Ends.ist X706 hx hZ e706 f707 (i := 0) rfl (by simp only [List.length_cons]; omega) (hb hby d4_159) ?_
      intro T708 h708 X708 e708 W708 V708
      have V708 : Ary Z h708 vA .int ((.int i4) :: (.int i1) :: (.int i2) :: (.int i3) :: (.int i4) :: rv) := V708
      have O708 := O704.wr W708 (Or.inl (List.mem_of_getElem? (i := 2) rfl))
      refine E.iloadN (q := 161) X708 hx (hb hby d4_160) rfl ?_
      have f709 := E0.wr W574
      have f710 := f709.wr W704
      have f711 := f710.wr W708
      have f712 := f582.other W704 (Or.inl hoa)
      have f713 := f712.other W708 (Or.inl hob)
      have f714 := f705.other W708 (Or.inl hob)
      have f715 := Fw574.other W704 (Or.inl hoa)
      have f716 := f715.other W708 (Or.inl hob)
      have f717 := V704.other W708 hne
      subst e708
      exact Ends.retI X708 hx hlk hret (hb hby d4_161) (by decide) (by decide) ⟨rfl, O708, [i4, i1, i2, i3], ⟨f711, f713, f714, f716, ⟨_ :: _, f717, by simp only [List.length_cons, List.length_nil] at *; omega⟩, ⟨_ :: _, V708, by simp only [List.length_cons, List.length_nil] at *; omega⟩, hne, hoa, hob⟩, (List.perm_iff_count.mpr fun z => by simp only [List.count_cons, List.count_nil] <;> ac_rfl), by simp only [own_ord] at * <;> omega, by simp only [own_ord] at Q0; simp only [List.mem_cons, List.not_mem_nil, or_false, false_or]; intro j hj; rcases hj with rfl | rfl | rfl | rfl <;> omega⟩
theorem ef_0 (m : MethodId) (x0 : Int32) (x1 : Int32) (x2 : Int32) (x3 : Int32) (x4 : Int32) : entryFrame m #[(.int x0), (.int x1), (.int x2), (.int x3), (.int x4)] maxLocals = mkF m 0 #[.val (.int x0), .val (.int x1), .val (.int x2), .val (.int x3), .val (.int x4), .unset, .unset, .unset, .unset, .unset, .unset, .unset, .unset] [] := by first | (simp [entryFrame, mkF, argsToLocals, Value.category, maxLocals]; done) | rfl
set_option maxRecDepth 65536 in
set_option maxHeartbeats 40000000 in
theorem rm0 (l : Launch) (Z : State) (a0 : Array Value) (hw : ∀ d ∈ tables_1, d.before a0 Z = true) (va : Int32) (vb : Int32) (vc : Int32) (vd : Int32) (ve : Int32) (h0 : Heap) :
    Con l x code maxLocals ret tables_1 room_1 #[(.int va), (.int vb), (.int vc), (.int vd), (.int ve)] Z h0 (fun v h L => v = some (.int 1) ∧ Fr h0.size L) := by
  refine Con.of (plainFor_of_name pn_0) ?_
  intro p e s m below meth c s₁ hx hZ hby hml hown hnm hret hlk X0 e0
  refine Ends.cast (ef_0 m va vb vc vd ve) ?_
  show Ends p e below s _ _ _ s₁ (mkF m 0 #[.val (.int va), .val (.int vb), .val (.int vc), .val (.int vd), .val (.int ve), .unset, .unset, .unset, .unset, .unset, .unset, .unset, .unset] [])
  have O0 := Ok.refl h0 []
  obtain ⟨KK, hKK⟩ : ∃ K, K = own_K va vb vc vd ve := ⟨_, rfl⟩
  have hk0 : FP.i2d va = FP.i2d (KK (0 : Int32)) := by rw [hKK]; rfl
  have hk1 : FP.i2d vb = FP.i2d (KK (1 : Int32)) := by rw [hKK]; rfl
  have hk2 : FP.i2d vc = FP.i2d (KK (2 : Int32)) := by rw [hKK]; rfl
  have hk3 : FP.i2d vd = FP.i2d (KK (3 : Int32)) := by rw [hKK]; rfl
  have hk4 : FP.i2d ve = FP.i2d (KK (4 : Int32)) := by rw [hKK]; rfl
  refine E.iconst (q := 1) (v := (5 : Int32)) X0 hx (hb hby at_0) rfl ?_
  refine Ends.newA X0 hx hZ (hw _ (List.mem_of_getElem? (i := 0) rfl)) e0 (hb hby at_1) (N := 5) rfl (by decide) (by decide) (by decide) ?_
  intro T718 h718 b718 g718 X718 e718 E718 A718
  have ge_b718 : h0.size ≤ b718 := Nat.le_trans O0.le (Nat.le_of_eq g718.symm)
  have O718 := O0.ext E718
  have V718 : Ary Z h718 b718 .double [(.double (0 : UInt64)), (.double (0 : UInt64)), (.double (0 : UInt64)), (.double (0 : UInt64)), (.double (0 : UInt64))] := A718
  refine E.astore (q := 5) (l' := #[.val (.int va), .val (.int vb), .val (.int vc), .val (.int vd), .val (.int ve), .val (.ref b718), .unset, .unset, .unset, .unset, .unset, .unset, .unset]) X718 hx (hb hby at_3) rfl rfl ?_
  refine E.aload (q := 7) X718 hx (hb hby at_5) rfl rfl ?_
  refine E.iconst (q := 8) (v := (0 : Int32)) X718 hx (hb hby at_7) rfl ?_
  refine E.iloadN (q := 9) X718 hx (hb hby at_8) rfl ?_
  refine E.i2d (q := 10) X718 hx (hb hby at_9) ?_
  refine Ends.dst X718 hx hZ e718 V718 (i := 0) rfl (show 0 < 5 from by decide) (hb hby at_10) ?_
  intro T719 h719 X719 e719 W719 V719
  have V719 : Ary Z h719 b718 .double [(.double (FP.i2d va)), (.double (0 : UInt64)), (.double (0 : UInt64)), (.double (0 : UInt64)), (.double (0 : UInt64))] := V719
  have O719 := O718.wr W719 (Or.inr ge_b718)
  refine E.aload (q := 13) X719 hx (hb hby at_11) rfl rfl ?_
  refine E.iconst (q := 14) (v := (1 : Int32)) X719 hx (hb hby at_13) rfl ?_
  refine E.iloadN (q := 15) X719 hx (hb hby at_14) rfl ?_
  refine E.i2d (q := 16) X719 hx (hb hby at_15) ?_
  refine Ends.dst X719 hx hZ e719 V719 (i := 1) rfl (show 1 < 5 from by decide) (hb hby at_16) ?_
  intro T720 h720 X720 e720 W720 V720
  have V720 : Ary Z h720 b718 .double [(.double (FP.i2d va)), (.double (FP.i2d vb)), (.double (0 : UInt64)), (.double (0 : UInt64)), (.double (0 : UInt64))] := V720
  have O720 := O719.wr W720 (Or.inr ge_b718)
  refine E.aload (q := 19) X720 hx (hb hby at_17) rfl rfl ?_
  refine E.iconst (q := 20) (v := (2 : Int32)) X720 hx (hb hby at_19) rfl ?_
  refine E.iloadN (q := 21) X720 hx (hb hby at_20) rfl ?_
  refine E.i2d (q := 22) X720 hx (hb hby at_21) ?_
  refine Ends.dst X720 hx hZ e720 V720 (i := 2) rfl (show 2 < 5 from by decide) (hb hby at_22) ?_
  intro T721 h721 X721 e721 W721 V721
  have V721 : Ary Z h721 b718 .double [(.double (FP.i2d va)), (.double (FP.i2d vb)), (.double (FP.i2d vc)), (.double (0 : UInt64)), (.double (0 : UInt64))] := V721
  have O721 := O720.wr W721 (Or.inr ge_b718)
  refine E.aload (q := 25) X721 hx (hb hby at_23) rfl rfl ?_
  refine E.iconst (q := 26) (v := (3 : Int32)) X721 hx (hb hby at_25) rfl ?_
  refine E.iloadN (q := 27) X721 hx (hb hby at_26) rfl ?_
  refine E.i2d (q := 28) X721 hx (hb hby at_27) ?_
  refine Ends.dst X721 hx hZ e721 V721 (i := 3) rfl (show 3 < 5 from by decide) (hb hby at_28) ?_
  intro T722 h722 X722 e722 W722 V722
  have V722 : Ary Z h722 b718 .double [(.double (FP.i2d va)), (.double (FP.i2d vb)), (.double (FP.i2d vc)), (.double (FP.i2d vd)), (.double (0 : UInt64))] := V722
  have O722 := O721.wr W722 (Or.inr ge_b718)
  refine E.aload (q := 31) X722 hx (hb hby at_29) rfl rfl ?_
  refine E.iconst (q := 32) (v := (4 : Int32)) X722 hx (hb hby at_31) rfl ?_
  refine E.iload (q := 34) X722 hx (hb hby at_32) rfl ?_
  refine E.i2d (q := 35) X722 hx (hb hby at_34) ?_
  refine Ends.dst X722 hx hZ e722 V722 (i := 4) rfl (show 4 < 5 from by decide) (hb hby at_35) ?_
  intro T723 h723 X723 e723 W723 V723
  have V723 : Ary Z h723 b718 .double [(.double (FP.i2d va)), (.double (FP.i2d vb)), (.double (FP.i2d vc)), (.double (FP.i2d vd)), (.double (FP.i2d ve))] := V723
  have O723 := O722.wr W723 (Or.inr ge_b718)
  refine Ends.newC X723 hx hZ hown (hw _ (List.mem_of_getElem? (i := 1) rfl)) (hw _ (List.mem_of_getElem? (i := 2) rfl)) (hw _ (List.mem_of_getElem? (i := 3) rfl)) e723 (hb hby at_36) (by decide) (by decide) ?_
  intro T724 h724 b724 g724 X724 e724 E724 A724 D724
  have ge_b724 : h0.size ≤ b724 := Nat.le_trans O723.le (Nat.le_of_eq g724.symm)
  have O724 := O723.ext E724
  have F724_keys : Fld Z h724 b724 "com/example/hourline/hourline/engine/MinHeap" "keys" "[D" .null := D724 (Or.inl (hw _ (List.mem_of_getElem? (i := 11) rfl))) (ty := (.array .double)) (by decide)
  have F724_values : Fld Z h724 b724 "com/example/hourline/hourline/engine/MinHeap" "values" "[I" .null := D724 (Or.inl (hw _ (List.mem_of_getElem? (i := 14) rfl))) (ty := (.array .int)) (by decide)
  have F724_size : Fld Z h724 b724 "com/example/hourline/hourline/engine/MinHeap" "size" "I" (.int (0 : Int32)) := D724 (Or.inl (hw _ (List.mem_of_getElem? (i := 21) rfl))) (ty := .int) (by decide)
  refine E.dup (q := 40) X724 hx (hb hby at_39) rfl ?_
  have f725 := V723.ext E724
  refine Ends.callI X724 hx hZ hown (hw _ (List.mem_of_getElem? (i := 4) rfl)) (hw _ (List.mem_of_getElem? (i := 5) rfl)) (hw _ (List.mem_of_getElem? (i := 3) rfl)) (hw _ (List.mem_of_getElem? (i := 6) rfl)) rfl (by decide) (argsL := []) (rest := [(.ref b724)]) e724 (rm1 l Z a0 hw b724 h724 A724 F724_keys F724_values F724_size KK) (W := 1) (by decide) (by decide) (by rw [hml]; rfl) (lenOf pd_0 rfl) (Nat.le_of_eq rfl) (hb hby at_40) (by decide) (by decide) rfl ?_
  rintro T726 v726 L726 X726 ⟨rfl, kA, vA, gk726, gv726, hO726, hH726⟩
  have e726 : T726.heap = T726.heap := rfl
  have O726 := O724.call hO726 (allS (Or.inr ge_b724) all0)
  show Ends p e below s _ _ _ T726 (mkF m 43 #[.val (.int va), .val (.int vb), .val (.int vc), .val (.int vd), .val (.int ve), .val (.ref b718), .unset, .unset, .unset, .unset, .unset, .unset, .unset] [(.ref b724)])
  have nek : b718 ≠ kA := Nat.ne_of_lt (Nat.lt_of_lt_of_le f725.lt gk726)
  have nev : b718 ≠ vA := Nat.ne_of_lt (Nat.lt_of_lt_of_le f725.lt gv726)
  have ge_kA : h0.size ≤ kA := Nat.le_trans O724.le gk726
  have ge_vA : h0.size ≤ vA := Nat.le_trans O724.le gv726
  refine E.astore (q := 45) (l' := #[.val (.int va), .val (.int vb), .val (.int vc), .val (.int vd), .val (.int ve), .val (.ref b718), .val (.ref b724), .unset, .unset, .unset, .unset, .unset, .unset]) X726 hx (hb hby at_43) rfl rfl ?_
  refine E.aload (q := 47) X726 hx (hb hby at_45) rfl rfl ?_
  refine E.aload (q := 49) X726 hx (hb hby at_47) rfl rfl ?_
  refine E.iconst (q := 50) (v := (0 : Int32)) X726 hx (hb hby at_49) rfl ?_
  have f727 := f725.keep hO726.1 (ninS (Nat.ne_of_lt (Nat.lt_of_lt_of_eq V723.lt g724.symm)) nin0)
  refine Ends.dld X726 hx hZ e726 f727 (i := 0) rfl rfl (hb hby at_50) ?_
  refine E.iconst (q := 52) (v := (0 : Int32)) X726 hx (hb hby at_51) rfl ?_
  rw [hk0]
  have f728 := A724.keep hO726.1
  refine Ends.callV X726 hx hZ hown (hw _ (List.mem_of_getElem? (i := 15) rfl)) (hw _ (List.mem_of_getElem? (i := 16) rfl)) (hw _ (List.mem_of_getElem? (i := 18) rfl)) (hw _ (List.mem_of_getElem? (i := 17) rfl)) (hw _ (List.mem_of_getElem? (i := 3) rfl)) (hw _ (List.mem_of_getElem? (i := 19) rfl)) (by decide) (argsL := [(.double (FP.i2d (KK (0 : Int32)))), (.int (0 : Int32))]) (rest := []) e726 f728 (rmP0 l Z a0 hw b724 KK (0 : Int32) kA vA  T726.heap hH726 trivial) (W := 0) (by decide) (by decide) (by rw [hml]; rfl) (lenOf pd_1 rfl) (Nat.le_of_eq rfl) (hb hby at_52) (by decide) (by decide) rfl ?_
  rintro T729 v729 L729 X729 ⟨rfl, hO729, is729, hH729, hp729, ho729⟩
  have e729 : T729.heap = T729.heap := rfl
  have O729 := O726.call hO729 (allS (Or.inr ge_b724) (allS (Or.inr ge_kA) (allS (Or.inr ge_vA) all0)))
  show Ends p e below s _ _ _ T729 (mkF m 55 #[.val (.int va), .val (.int vb), .val (.int vc), .val (.int vd), .val (.int ve), .val (.ref b718), .val (.ref b724), .unset, .unset, .unset, .unset, .unset, .unset] [])
  obtain ⟨a0_0, rfl⟩ := own_l1 hp729.length_eq
  refine E.aload (q := 57) X729 hx (hb hby at_55) rfl rfl ?_
  refine E.aload (q := 59) X729 hx (hb hby at_57) rfl rfl ?_
  refine E.iconst (q := 60) (v := (1 : Int32)) X729 hx (hb hby at_59) rfl ?_
  have f730 := f727.keep hO729.1 (ninS (Nat.ne_of_lt (Nat.lt_of_lt_of_eq V723.lt g724.symm)) (ninS nek (ninS nev nin0)))
  refine Ends.dld X729 hx hZ e729 f730 (i := 1) rfl rfl (hb hby at_60) ?_
  refine E.iconst (q := 62) (v := (1 : Int32)) X729 hx (hb hby at_61) rfl ?_
  rw [hk1]
  have f731 := f728.keep hO729.1
  refine Ends.callV X729 hx hZ hown (hw _ (List.mem_of_getElem? (i := 15) rfl)) (hw _ (List.mem_of_getElem? (i := 16) rfl)) (hw _ (List.mem_of_getElem? (i := 18) rfl)) (hw _ (List.mem_of_getElem? (i := 17) rfl)) (hw _ (List.mem_of_getElem? (i := 3) rfl)) (hw _ (List.mem_of_getElem? (i := 19) rfl)) (by decide) (argsL := [(.double (FP.i2d (KK (1 : Int32)))), (.int (1 : Int32))]) (rest := []) e729 f731 (rmP1 l Z a0 hw b724 KK (1 : Int32) kA vA a0_0 T729.heap hH729 ho729) (W := 0) (by decide) (by decide) (by rw [hml]; rfl) (lenOf pd_1 rfl) (Nat.le_of_eq rfl) (hb hby at_62) (by decide) (by decide) rfl ?_
  rintro T732 v732 L732 X732 ⟨rfl, hO732, is732, hH732, hp732, ho732⟩
  have e732 : T732.heap = T732.heap := rfl
  have O732 := O729.call hO732 (allS (Or.inr ge_b724) (allS (Or.inr ge_kA) (allS (Or.inr ge_vA) all0)))
  show Ends p e below s _ _ _ T732 (mkF m 65 #[.val (.int va), .val (.int vb), .val (.int vc), .val (.int vd), .val (.int ve), .val (.ref b718), .val (.ref b724), .unset, .unset, .unset, .unset, .unset, .unset] [])
  obtain ⟨a1_0, a1_1, rfl⟩ := own_l2 hp732.length_eq
  refine E.aload (q := 67) X732 hx (hb hby at_65) rfl rfl ?_
  refine E.aload (q := 69) X732 hx (hb hby at_67) rfl rfl ?_
  refine E.iconst (q := 70) (v := (2 : Int32)) X732 hx (hb hby at_69) rfl ?_
  have f733 := f730.keep hO732.1 (ninS (Nat.ne_of_lt (Nat.lt_of_lt_of_eq V723.lt g724.symm)) (ninS nek (ninS nev nin0)))
  refine Ends.dld X732 hx hZ e732 f733 (i := 2) rfl rfl (hb hby at_70) ?_
  refine E.iconst (q := 72) (v := (2 : Int32)) X732 hx (hb hby at_71) rfl ?_
  rw [hk2]
  have f734 := f731.keep hO732.1
  refine Ends.callV X732 hx hZ hown (hw _ (List.mem_of_getElem? (i := 15) rfl)) (hw _ (List.mem_of_getElem? (i := 16) rfl)) (hw _ (List.mem_of_getElem? (i := 18) rfl)) (hw _ (List.mem_of_getElem? (i := 17) rfl)) (hw _ (List.mem_of_getElem? (i := 3) rfl)) (hw _ (List.mem_of_getElem? (i := 19) rfl)) (by decide) (argsL := [(.double (FP.i2d (KK (2 : Int32)))), (.int (2 : Int32))]) (rest := []) e732 f734 (rmP2 l Z a0 hw b724 KK (2 : Int32) kA vA a1_0 a1_1 T732.heap hH732 ho732) (W := 0) (by decide) (by decide) (by rw [hml]; rfl) (lenOf pd_1 rfl) (Nat.le_of_eq rfl) (hb hby at_72) (by decide) (by decide) rfl ?_
  rintro T735 v735 L735 X735 ⟨rfl, hO735, is735, hH735, hp735, ho735⟩
  have e735 : T735.heap = T735.heap := rfl
  have O735 := O732.call hO735 (allS (Or.inr ge_b724) (allS (Or.inr ge_kA) (allS (Or.inr ge_vA) all0)))
  show Ends p e below s _ _ _ T735 (mkF m 75 #[.val (.int va), .val (.int vb), .val (.int vc), .val (.int vd), .val (.int ve), .val (.ref b718), .val (.ref b724), .unset, .unset, .unset, .unset, .unset, .unset] [])
  obtain ⟨a2_0, a2_1, a2_2, rfl⟩ := own_l3 hp735.length_eq
  refine E.aload (q := 77) X735 hx (hb hby at_75) rfl rfl ?_
  refine E.aload (q := 79) X735 hx (hb hby at_77) rfl rfl ?_
  refine E.iconst (q := 80) (v := (3 : Int32)) X735 hx (hb hby at_79) rfl ?_
  have f736 := f733.keep hO735.1 (ninS (Nat.ne_of_lt (Nat.lt_of_lt_of_eq V723.lt g724.symm)) (ninS nek (ninS nev nin0)))
  refine Ends.dld X735 hx hZ e735 f736 (i := 3) rfl rfl (hb hby at_80) ?_
  refine E.iconst (q := 82) (v := (3 : Int32)) X735 hx (hb hby at_81) rfl ?_
  rw [hk3]
  have f737 := f734.keep hO735.1
  refine Ends.callV X735 hx hZ hown (hw _ (List.mem_of_getElem? (i := 15) rfl)) (hw _ (List.mem_of_getElem? (i := 16) rfl)) (hw _ (List.mem_of_getElem? (i := 18) rfl)) (hw _ (List.mem_of_getElem? (i := 17) rfl)) (hw _ (List.mem_of_getElem? (i := 3) rfl)) (hw _ (List.mem_of_getElem? (i := 19) rfl)) (by decide) (argsL := [(.double (FP.i2d (KK (3 : Int32)))), (.int (3 : Int32))]) (rest := []) e735 f737 (rmP3 l Z a0 hw b724 KK (3 : Int32) kA vA a2_0 a2_1 a2_2 T735.heap hH735 ho735) (W := 0) (by decide) (by decide) (by rw [hml]; rfl) (lenOf pd_1 rfl) (Nat.le_of_eq rfl) (hb hby at_82) (by decide) (by decide) rfl ?_
  rintro T738 v738 L738 X738 ⟨rfl, hO738, is738, hH738, hp738, ho738⟩
  have e738 : T738.heap = T738.heap := rfl
  have O738 := O735.call hO738 (allS (Or.inr ge_b724) (allS (Or.inr ge_kA) (allS (Or.inr ge_vA) all0)))
  show Ends p e below s _ _ _ T738 (mkF m 85 #[.val (.int va), .val (.int vb), .val (.int vc), .val (.int vd), .val (.int ve), .val (.ref b718), .val (.ref b724), .unset, .unset, .unset, .unset, .unset, .unset] [])
  obtain ⟨a3_0, a3_1, a3_2, a3_3, rfl⟩ := own_l4 hp738.length_eq
  refine E.aload (q := 87) X738 hx (hb hby at_85) rfl rfl ?_
  refine E.aload (q := 89) X738 hx (hb hby at_87) rfl rfl ?_
  refine E.iconst (q := 90) (v := (4 : Int32)) X738 hx (hb hby at_89) rfl ?_
  have f739 := f736.keep hO738.1 (ninS (Nat.ne_of_lt (Nat.lt_of_lt_of_eq V723.lt g724.symm)) (ninS nek (ninS nev nin0)))
  refine Ends.dld X738 hx hZ e738 f739 (i := 4) rfl rfl (hb hby at_90) ?_
  refine E.iconst (q := 92) (v := (4 : Int32)) X738 hx (hb hby at_91) rfl ?_
  rw [hk4]
  have f740 := f737.keep hO738.1
  refine Ends.callV X738 hx hZ hown (hw _ (List.mem_of_getElem? (i := 15) rfl)) (hw _ (List.mem_of_getElem? (i := 16) rfl)) (hw _ (List.mem_of_getElem? (i := 18) rfl)) (hw _ (List.mem_of_getElem? (i := 17) rfl)) (hw _ (List.mem_of_getElem? (i := 3) rfl)) (hw _ (List.mem_of_getElem? (i := 19) rfl)) (by decide) (argsL := [(.double (FP.i2d (KK (4 : Int32)))), (.int (4 : Int32))]) (rest := []) e738 f740 (rmP4 l Z a0 hw b724 KK (4 : Int32) kA vA a3_0 a3_1 a3_2 a3_3 T738.heap hH738 ho738) (W := 0) (by decide) (by decide) (by rw [hml]; rfl) (lenOf pd_1 rfl) (Nat.le_of_eq rfl) (hb hby at_92) (by decide) (by decide) rfl ?_
  rintro T741 v741 L741 X741 ⟨rfl, hO741, is741, hH741, hp741, ho741⟩
  have e741 : T741.heap = T741.heap := rfl
  have O741 := O738.call hO741 (allS (Or.inr ge_b724) (allS (Or.inr ge_kA) (allS (Or.inr ge_vA) all0)))
  show Ends p e below s _ _ _ T741 (mkF m 95 #[.val (.int va), .val (.int vb), .val (.int vc), .val (.int vd), .val (.int ve), .val (.ref b718), .val (.ref b724), .unset, .unset, .unset, .unset, .unset, .unset] [])
  obtain ⟨a4_0, a4_1, a4_2, a4_3, a4_4, rfl⟩ := own_l5 hp741.length_eq
  have q0 : [a0_0].Perm [(0 : Int32)] := hp729
  have q1 : [a1_0, a1_1].Perm [(1 : Int32), (0 : Int32)] := hp732.trans (List.Perm.cons _ q0)
  have q2 : [a2_0, a2_1, a2_2].Perm [(2 : Int32), (1 : Int32), (0 : Int32)] := hp735.trans (List.Perm.cons _ q1)
  have q3 : [a3_0, a3_1, a3_2, a3_3].Perm [(3 : Int32), (2 : Int32), (1 : Int32), (0 : Int32)] := hp738.trans (List.Perm.cons _ q2)
  have q4 : [a4_0, a4_1, a4_2, a4_3, a4_4].Perm [(4 : Int32), (3 : Int32), (2 : Int32), (1 : Int32), (0 : Int32)] := hp741.trans (List.Perm.cons _ q3)
  refine E.aload (q := 97) X741 hx (hb hby at_95) rfl rfl ?_
  have f742 := f740.keep hO741.1
  refine Ends.callV X741 hx hZ hown (hw _ (List.mem_of_getElem? (i := 22) rfl)) (hw _ (List.mem_of_getElem? (i := 23) rfl)) (hw _ (List.mem_of_getElem? (i := 25) rfl)) (hw _ (List.mem_of_getElem? (i := 24) rfl)) (hw _ (List.mem_of_getElem? (i := 3) rfl)) (hw _ (List.mem_of_getElem? (i := 26) rfl)) (by decide) (argsL := []) (rest := []) e741 f742 (rmO5 l Z a0 hw b724 KK kA vA a4_0 a4_1 a4_2 a4_3 a4_4 T741.heap hH741 ho741) (W := 0) (by decide) (by decide) (by rw [hml]; rfl) (lenOf pd_2 rfl) (Nat.le_of_eq rfl) (hb hby at_97) (by decide) (by decide) rfl ?_
  rintro T743 v743 L743 X743 ⟨rfl, hO743, is743, hH743, hp743, ho743, hl743⟩
  have e743 : T743.heap = T743.heap := rfl
  have O743 := O741.call hO743 (allS (Or.inr ge_b724) (allS (Or.inr ge_kA) (allS (Or.inr ge_vA) all0)))
  show Ends p e below s _ _ _ T743 (mkF m 100 #[.val (.int va), .val (.int vb), .val (.int vc), .val (.int vd), .val (.int ve), .val (.ref b718), .val (.ref b724), .unset, .unset, .unset, .unset, .unset, .unset] [(.int a4_0)])
  have hl_743 := hp743.length_eq
  simp only [List.length_cons, List.length_nil] at hl_743
  obtain ⟨c5_0, c5_1, c5_2, c5_3, rfl⟩ := own_l4 (show is743.length = 4 by omega)
  have le0 := hl743 c5_0 (List.mem_cons_self ..)
  refine E.istore (q := 102) (l' := #[.val (.int va), .val (.int vb), .val (.int vc), .val (.int vd), .val (.int ve), .val (.ref b718), .val (.ref b724), .val (.int a4_0), .unset, .unset, .unset, .unset, .unset]) X743 hx (hb hby at_100) rfl ?_
  refine E.aload (q := 104) X743 hx (hb hby at_102) rfl rfl ?_
  have f744 := f742.keep hO743.1
  refine Ends.callV X743 hx hZ hown (hw _ (List.mem_of_getElem? (i := 22) rfl)) (hw _ (List.mem_of_getElem? (i := 23) rfl)) (hw _ (List.mem_of_getElem? (i := 25) rfl)) (hw _ (List.mem_of_getElem? (i := 24) rfl)) (hw _ (List.mem_of_getElem? (i := 3) rfl)) (hw _ (List.mem_of_getElem? (i := 26) rfl)) (by decide) (argsL := []) (rest := []) e743 f744 (rmO4 l Z a0 hw b724 KK kA vA c5_0 c5_1 c5_2 c5_3 T743.heap hH743 ho743) (W := 0) (by decide) (by decide) (by rw [hml]; rfl) (lenOf pd_2 rfl) (Nat.le_of_eq rfl) (hb hby at_104) (by decide) (by decide) rfl ?_
  rintro T745 v745 L745 X745 ⟨rfl, hO745, is745, hH745, hp745, ho745, hl745⟩
  have e745 : T745.heap = T745.heap := rfl
  have O745 := O743.call hO745 (allS (Or.inr ge_b724) (allS (Or.inr ge_kA) (allS (Or.inr ge_vA) all0)))
  show Ends p e below s _ _ _ T745 (mkF m 107 #[.val (.int va), .val (.int vb), .val (.int vc), .val (.int vd), .val (.int ve), .val (.ref b718), .val (.ref b724), .val (.int a4_0), .unset, .unset, .unset, .unset, .unset] [(.int c5_0)])
  have hl_745 := hp745.length_eq
  simp only [List.length_cons, List.length_nil] at hl_745
  obtain ⟨c4_0, c4_1, c4_2, rfl⟩ := own_l3 (show is745.length = 3 by omega)
  have le1 := hl745 c4_0 (List.mem_cons_self ..)
  refine E.istore (q := 109) (l' := #[.val (.int va), .val (.int vb), .val (.int vc), .val (.int vd), .val (.int ve), .val (.ref b718), .val (.ref b724), .val (.int a4_0), .val (.int c5_0), .unset, .unset, .unset, .unset]) X745 hx (hb hby at_107) rfl ?_
  refine E.aload (q := 111) X745 hx (hb hby at_109) rfl rfl ?_
  have f746 := f744.keep hO745.1
  refine Ends.callV X745 hx hZ hown (hw _ (List.mem_of_getElem? (i := 22) rfl)) (hw _ (List.mem_of_getElem? (i := 23) rfl)) (hw _ (List.mem_of_getElem? (i := 25) rfl)) (hw _ (List.mem_of_getElem? (i := 24) rfl)) (hw _ (List.mem_of_getElem? (i := 3) rfl)) (hw _ (List.mem_of_getElem? (i := 26) rfl)) (by decide) (argsL := []) (rest := []) e745 f746 (rmO3 l Z a0 hw b724 KK kA vA c4_0 c4_1 c4_2 T745.heap hH745 ho745) (W := 0) (by decide) (by decide) (by rw [hml]; rfl) (lenOf pd_2 rfl) (Nat.le_of_eq rfl) (hb hby at_111) (by decide) (by decide) rfl ?_
  rintro T747 v747 L747 X747 ⟨rfl, hO747, is747, hH747, hp747, ho747, hl747⟩
  have e747 : T747.heap = T747.heap := rfl
  have O747 := O745.call hO747 (allS (Or.inr ge_b724) (allS (Or.inr ge_kA) (allS (Or.inr ge_vA) all0)))
  show Ends p e below s _ _ _ T747 (mkF m 114 #[.val (.int va), .val (.int vb), .val (.int vc), .val (.int vd), .val (.int ve), .val (.ref b718), .val (.ref b724), .val (.int a4_0), .val (.int c5_0), .unset, .unset, .unset, .unset] [(.int c4_0)])
  have hl_747 := hp747.length_eq
  simp only [List.length_cons, List.length_nil] at hl_747
  obtain ⟨c3_0, c3_1, rfl⟩ := own_l2 (show is747.length = 2 by omega)
  have le2 := hl747 c3_0 (List.mem_cons_self ..)
  refine E.istore (q := 116) (l' := #[.val (.int va), .val (.int vb), .val (.int vc), .val (.int vd), .val (.int ve), .val (.ref b718), .val (.ref b724), .val (.int a4_0), .val (.int c5_0), .val (.int c4_0), .unset, .unset, .unset]) X747 hx (hb hby at_114) rfl ?_
  refine E.aload (q := 118) X747 hx (hb hby at_116) rfl rfl ?_
  have f748 := f746.keep hO747.1
  refine Ends.callV X747 hx hZ hown (hw _ (List.mem_of_getElem? (i := 22) rfl)) (hw _ (List.mem_of_getElem? (i := 23) rfl)) (hw _ (List.mem_of_getElem? (i := 25) rfl)) (hw _ (List.mem_of_getElem? (i := 24) rfl)) (hw _ (List.mem_of_getElem? (i := 3) rfl)) (hw _ (List.mem_of_getElem? (i := 26) rfl)) (by decide) (argsL := []) (rest := []) e747 f748 (rmO2 l Z a0 hw b724 KK kA vA c3_0 c3_1 T747.heap hH747 ho747) (W := 0) (by decide) (by decide) (by rw [hml]; rfl) (lenOf pd_2 rfl) (Nat.le_of_eq rfl) (hb hby at_118) (by decide) (by decide) rfl ?_
  rintro T749 v749 L749 X749 ⟨rfl, hO749, is749, hH749, hp749, ho749, hl749⟩
  have e749 : T749.heap = T749.heap := rfl
  have O749 := O747.call hO749 (allS (Or.inr ge_b724) (allS (Or.inr ge_kA) (allS (Or.inr ge_vA) all0)))
  show Ends p e below s _ _ _ T749 (mkF m 121 #[.val (.int va), .val (.int vb), .val (.int vc), .val (.int vd), .val (.int ve), .val (.ref b718), .val (.ref b724), .val (.int a4_0), .val (.int c5_0), .val (.int c4_0), .unset, .unset, .unset] [(.int c3_0)])
  have hl_749 := hp749.length_eq
  simp only [List.length_cons, List.length_nil] at hl_749
  obtain ⟨c2_0, rfl⟩ := own_l1 (show is749.length = 1 by omega)
  have le3 := hl749 c2_0 (List.mem_cons_self ..)
  refine E.istore (q := 123) (l' := #[.val (.int va), .val (.int vb), .val (.int vc), .val (.int vd), .val (.int ve), .val (.ref b718), .val (.ref b724), .val (.int a4_0), .val (.int c5_0), .val (.int c4_0), .val (.int c3_0), .unset, .unset]) X749 hx (hb hby at_121) rfl ?_
  refine E.aload (q := 125) X749 hx (hb hby at_123) rfl rfl ?_
  have f750 := f748.keep hO749.1
  refine Ends.callV X749 hx hZ hown (hw _ (List.mem_of_getElem? (i := 22) rfl)) (hw _ (List.mem_of_getElem? (i := 23) rfl)) (hw _ (List.mem_of_getElem? (i := 25) rfl)) (hw _ (List.mem_of_getElem? (i := 24) rfl)) (hw _ (List.mem_of_getElem? (i := 3) rfl)) (hw _ (List.mem_of_getElem? (i := 26) rfl)) (by decide) (argsL := []) (rest := []) e749 f750 (rmO1 l Z a0 hw b724 KK kA vA c2_0 T749.heap hH749 ho749) (W := 0) (by decide) (by decide) (by rw [hml]; rfl) (lenOf pd_2 rfl) (Nat.le_of_eq rfl) (hb hby at_125) (by decide) (by decide) rfl ?_
  rintro T751 v751 L751 X751 ⟨rfl, hO751, is751, hH751, hp751, ho751, hl751⟩
  have e751 : T751.heap = T751.heap := rfl
  have O751 := O749.call hO751 (allS (Or.inr ge_b724) (allS (Or.inr ge_kA) (allS (Or.inr ge_vA) all0)))
  show Ends p e below s _ _ _ T751 (mkF m 128 #[.val (.int va), .val (.int vb), .val (.int vc), .val (.int vd), .val (.int ve), .val (.ref b718), .val (.ref b724), .val (.int a4_0), .val (.int c5_0), .val (.int c4_0), .val (.int c3_0), .unset, .unset] [(.int c2_0)])
  have hl_751 := hp751.length_eq
  simp only [List.length_cons, List.length_nil] at hl_751
  obtain rfl : is751 = [] := List.eq_nil_of_length_eq_zero (by omega)
  have r4 : [c2_0].Perm [c2_0] := hp751
  have r3 : [c3_0, c2_0].Perm _ := (List.Perm.cons c3_0 r4).trans hp749
  have r2 : [c4_0, c3_0, c2_0].Perm _ := (List.Perm.cons c4_0 r3).trans hp747
  have r1 : [c5_0, c4_0, c3_0, c2_0].Perm _ := (List.Perm.cons c5_0 r2).trans hp745
  have r0 : [a4_0, c5_0, c4_0, c3_0, c2_0].Perm _ := (List.Perm.cons a4_0 r1).trans hp743
  have PP : [a4_0, c5_0, c4_0, c3_0, c2_0].Perm [4, 3, 2, 1, 0] := r0.trans q4
  have m0 := own_mem (PP.mem_iff.mp (by simp : a4_0 ∈ [a4_0, c5_0, c4_0, c3_0, c2_0]))
  have m1 := own_mem (PP.mem_iff.mp (by simp : c5_0 ∈ [a4_0, c5_0, c4_0, c3_0, c2_0]))
  have m2 := own_mem (PP.mem_iff.mp (by simp : c4_0 ∈ [a4_0, c5_0, c4_0, c3_0, c2_0]))
  have m3 := own_mem (PP.mem_iff.mp (by simp : c3_0 ∈ [a4_0, c5_0, c4_0, c3_0, c2_0]))
  have m4 := own_mem (PP.mem_iff.mp (by simp : c2_0 ∈ [a4_0, c5_0, c4_0, c3_0, c2_0]))
  refine E.istore (q := 130) (l' := #[.val (.int va), .val (.int vb), .val (.int vc), .val (.int vd), .val (.int ve), .val (.ref b718), .val (.ref b724), .val (.int a4_0), .val (.int c5_0), .val (.int c4_0), .val (.int c3_0), .val (.int c2_0), .unset]) X751 hx (hb hby at_128) rfl ?_
  refine E.iload (q := 132) X751 hx (hb hby at_130) rfl ?_
  refine Ends.callS X751 hx hZ hown (hw _ (List.mem_of_getElem? (i := 27) rfl)) (hw _ (List.mem_of_getElem? (i := 28) rfl)) (hw _ (List.mem_of_getElem? (i := 29) rfl)) (hw _ (List.mem_of_getElem? (i := 30) rfl)) (by decide) (argsL := [(.int a4_0)]) (rest := []) e751 (rm5 l Z a0 hw a4_0 T751.heap) (W := 0) (by decide) (by decide) (by rw [hml]; rfl) (lenOf pd_3 rfl) (Nat.le_of_eq rfl) (hb hby at_132) (by decide) (by decide) rfl ?_
  rintro T752 v752 L752 X752 ⟨rfl, e752, rfl⟩
  rw [List.append_nil] at X752
  show Ends p e below s _ _ _ T752 (mkF m 135 #[.val (.int va), .val (.int vb), .val (.int vc), .val (.int vd), .val (.int ve), .val (.ref b718), .val (.ref b724), .val (.int a4_0), .val (.int c5_0), .val (.int c4_0), .val (.int c3_0), .val (.int c2_0), .unset] [(.int (own_in a4_0))])
  refine E.ifN (q := 138) X752 hx (hb hby at_135) (XT.i0_eq_f (own_in1 m0)) ?_
  refine E.iload (q := 140) X752 hx (hb hby at_138) rfl ?_
  refine Ends.callS X752 hx hZ hown (hw _ (List.mem_of_getElem? (i := 27) rfl)) (hw _ (List.mem_of_getElem? (i := 28) rfl)) (hw _ (List.mem_of_getElem? (i := 29) rfl)) (hw _ (List.mem_of_getElem? (i := 30) rfl)) (by decide) (argsL := [(.int c5_0)]) (rest := []) e752 (rm5 l Z a0 hw c5_0 T751.heap) (W := 0) (by decide) (by decide) (by rw [hml]; rfl) (lenOf pd_3 rfl) (Nat.le_of_eq rfl) (hb hby at_140) (by decide) (by decide) rfl ?_
  rintro T753 v753 L753 X753 ⟨rfl, e753, rfl⟩
  rw [List.append_nil] at X753
  show Ends p e below s _ _ _ T753 (mkF m 143 #[.val (.int va), .val (.int vb), .val (.int vc), .val (.int vd), .val (.int ve), .val (.ref b718), .val (.ref b724), .val (.int a4_0), .val (.int c5_0), .val (.int c4_0), .val (.int c3_0), .val (.int c2_0), .unset] [(.int (own_in c5_0))])
  refine E.ifN (q := 146) X753 hx (hb hby at_143) (XT.i0_eq_f (own_in1 m1)) ?_
  refine E.iload (q := 148) X753 hx (hb hby at_146) rfl ?_
  refine Ends.callS X753 hx hZ hown (hw _ (List.mem_of_getElem? (i := 27) rfl)) (hw _ (List.mem_of_getElem? (i := 28) rfl)) (hw _ (List.mem_of_getElem? (i := 29) rfl)) (hw _ (List.mem_of_getElem? (i := 30) rfl)) (by decide) (argsL := [(.int c4_0)]) (rest := []) e753 (rm5 l Z a0 hw c4_0 T751.heap) (W := 0) (by decide) (by decide) (by rw [hml]; rfl) (lenOf pd_3 rfl) (Nat.le_of_eq rfl) (hb hby at_148) (by decide) (by decide) rfl ?_
  rintro T754 v754 L754 X754 ⟨rfl, e754, rfl⟩
  rw [List.append_nil] at X754
  show Ends p e below s _ _ _ T754 (mkF m 151 #[.val (.int va), .val (.int vb), .val (.int vc), .val (.int vd), .val (.int ve), .val (.ref b718), .val (.ref b724), .val (.int a4_0), .val (.int c5_0), .val (.int c4_0), .val (.int c3_0), .val (.int c2_0), .unset] [(.int (own_in c4_0))])
  refine E.ifN (q := 154) X754 hx (hb hby at_151) (XT.i0_eq_f (own_in1 m2)) ?_
  refine E.iload (q := 156) X754 hx (hb hby at_154) rfl ?_
  refine Ends.callS X754 hx hZ hown (hw _ (List.mem_of_getElem? (i := 27) rfl)) (hw _ (List.mem_of_getElem? (i := 28) rfl)) (hw _ (List.mem_of_getElem? (i := 29) rfl)) (hw _ (List.mem_of_getElem? (i := 30) rfl)) (by decide) (argsL := [(.int c3_0)]) (rest := []) e754 (rm5 l Z a0 hw c3_0 T751.heap) (W := 0) (by decide) (by decide) (by rw [hml]; rfl) (lenOf pd_3 rfl) (Nat.le_of_eq rfl) (hb hby at_156) (by decide) (by decide) rfl ?_
  rintro T755 v755 L755 X755 ⟨rfl, e755, rfl⟩
  rw [List.append_nil] at X755
  show Ends p e below s _ _ _ T755 (mkF m 159 #[.val (.int va), .val (.int vb), .val (.int vc), .val (.int vd), .val (.int ve), .val (.ref b718), .val (.ref b724), .val (.int a4_0), .val (.int c5_0), .val (.int c4_0), .val (.int c3_0), .val (.int c2_0), .unset] [(.int (own_in c3_0))])
  refine E.ifN (q := 162) X755 hx (hb hby at_159) (XT.i0_eq_f (own_in1 m3)) ?_
  refine E.iload (q := 164) X755 hx (hb hby at_162) rfl ?_
  refine Ends.callS X755 hx hZ hown (hw _ (List.mem_of_getElem? (i := 27) rfl)) (hw _ (List.mem_of_getElem? (i := 28) rfl)) (hw _ (List.mem_of_getElem? (i := 29) rfl)) (hw _ (List.mem_of_getElem? (i := 30) rfl)) (by decide) (argsL := [(.int c2_0)]) (rest := []) e755 (rm5 l Z a0 hw c2_0 T751.heap) (W := 0) (by decide) (by decide) (by rw [hml]; rfl) (lenOf pd_3 rfl) (Nat.le_of_eq rfl) (hb hby at_164) (by decide) (by decide) rfl ?_
  rintro T756 v756 L756 X756 ⟨rfl, e756, rfl⟩
  rw [List.append_nil] at X756
  show Ends p e below s _ _ _ T756 (mkF m 167 #[.val (.int va), .val (.int vb), .val (.int vc), .val (.int vd), .val (.int ve), .val (.ref b718), .val (.ref b724), .val (.int a4_0), .val (.int c5_0), .val (.int c4_0), .val (.int c3_0), .val (.int c2_0), .unset] [(.int (own_in c2_0))])
  refine E.ifY (q := 172) X756 hx (hb hby at_167) (XT.i0_ne_t (own_in1 m4)) ?_
  refine E.iconst (q := 173) (v := (1 : Int32)) X756 hx (hb hby at_172) rfl ?_
  refine E.iload (q := 175) X756 hx (hb hby at_173) rfl ?_
  refine E.ishl (q := 176) X756 hx (hb hby at_175) ?_
  refine E.iconst (q := 177) (v := (1 : Int32)) X756 hx (hb hby at_176) rfl ?_
  refine E.iload (q := 179) X756 hx (hb hby at_177) rfl ?_
  refine E.ishl (q := 180) X756 hx (hb hby at_179) ?_
  refine E.ior (q := 181) X756 hx (hb hby at_180) ?_
  refine E.iconst (q := 182) (v := (1 : Int32)) X756 hx (hb hby at_181) rfl ?_
  refine E.iload (q := 184) X756 hx (hb hby at_182) rfl ?_
  refine E.ishl (q := 185) X756 hx (hb hby at_184) ?_
  refine E.ior (q := 186) X756 hx (hb hby at_185) ?_
  refine E.iconst (q := 187) (v := (1 : Int32)) X756 hx (hb hby at_186) rfl ?_
  refine E.iload (q := 189) X756 hx (hb hby at_187) rfl ?_
  refine E.ishl (q := 190) X756 hx (hb hby at_189) ?_
  refine E.ior (q := 191) X756 hx (hb hby at_190) ?_
  refine E.iconst (q := 192) (v := (1 : Int32)) X756 hx (hb hby at_191) rfl ?_
  refine E.iload (q := 194) X756 hx (hb hby at_192) rfl ?_
  refine E.ishl (q := 195) X756 hx (hb hby at_194) ?_
  refine E.ior (q := 196) X756 hx (hb hby at_195) ?_
  refine E.istore (q := 198) (l' := #[.val (.int va), .val (.int vb), .val (.int vc), .val (.int vd), .val (.int ve), .val (.ref b718), .val (.ref b724), .val (.int a4_0), .val (.int c5_0), .val (.int c4_0), .val (.int c3_0), .val (.int c2_0), .val (.int ((((((1 : Int32) <<< (a4_0 &&& 31)) ||| ((1 : Int32) <<< (c5_0 &&& 31))) ||| ((1 : Int32) <<< (c4_0 &&& 31))) ||| ((1 : Int32) <<< (c3_0 &&& 31))) ||| ((1 : Int32) <<< (c2_0 &&& 31))))]) X756 hx (hb hby at_196) rfl ?_
  refine E.iload (q := 200) X756 hx (hb hby at_198) rfl ?_
  refine E.bipush (q := 202) (v := (31 : Int32)) X756 hx (hb hby at_200) rfl ?_
  refine E.icmpY (q := 207) X756 hx (hb hby at_202) (XT.ii_eq_t (own_seen PP)) ?_
  refine E.aload (q := 209) X756 hx (hb hby at_207) rfl rfl ?_
  refine E.iload (q := 211) X756 hx (hb hby at_209) rfl ?_
  have f757 := f739.keep hO741.1 (ninS (Nat.ne_of_lt (Nat.lt_of_lt_of_eq V723.lt g724.symm)) (ninS nek (ninS nev nin0)))
  have f758 := f757.keep hO743.1 (ninS (Nat.ne_of_lt (Nat.lt_of_lt_of_eq V723.lt g724.symm)) (ninS nek (ninS nev nin0)))
  have f759 := f758.keep hO745.1 (ninS (Nat.ne_of_lt (Nat.lt_of_lt_of_eq V723.lt g724.symm)) (ninS nek (ninS nev nin0)))
  have f760 := f759.keep hO747.1 (ninS (Nat.ne_of_lt (Nat.lt_of_lt_of_eq V723.lt g724.symm)) (ninS nek (ninS nev nin0)))
  have f761 := f760.keep hO749.1 (ninS (Nat.ne_of_lt (Nat.lt_of_lt_of_eq V723.lt g724.symm)) (ninS nek (ninS nev nin0)))
  have f762 := f761.keep hO751.1 (ninS (Nat.ne_of_lt (Nat.lt_of_lt_of_eq V723.lt g724.symm)) (ninS nek (ninS nev nin0)))
  refine Ends.dld X756 hx hZ e756 f762 (i := a4_0.toNatClampNeg) (own_idx m0) (v := .double (FP.i2d (KK a4_0))) (by rw [hKK]; exact own_kat m0) (hb hby at_211) ?_
  refine E.aload (q := 214) X756 hx (hb hby at_212) rfl rfl ?_
  refine E.iload (q := 216) X756 hx (hb hby at_214) rfl ?_
  refine Ends.dld X756 hx hZ e756 f762 (i := c5_0.toNatClampNeg) (own_idx m1) (v := .double (FP.i2d (KK c5_0))) (by rw [hKK]; exact own_kat m1) (hb hby at_216) ?_
  refine E.dcmp (q := 218) X756 hx (hb hby at_217) ?_
  rw [own_dc]
  refine E.ifN (q := 221) X756 hx (hb hby at_218) (XT.i0_gt_f (fun q => (Int.not_lt.mpr le0) ((own_c_gt _ _).mp q))) ?_
  refine E.aload (q := 223) X756 hx (hb hby at_221) rfl rfl ?_
  refine E.iload (q := 225) X756 hx (hb hby at_223) rfl ?_
  refine Ends.dld X756 hx hZ e756 f762 (i := c5_0.toNatClampNeg) (own_idx m1) (v := .double (FP.i2d (KK c5_0))) (by rw [hKK]; exact own_kat m1) (hb hby at_225) ?_
  refine E.aload (q := 228) X756 hx (hb hby at_226) rfl rfl ?_
  refine E.iload (q := 230) X756 hx (hb hby at_228) rfl ?_
  refine Ends.dld X756 hx hZ e756 f762 (i := c4_0.toNatClampNeg) (own_idx m2) (v := .double (FP.i2d (KK c4_0))) (by rw [hKK]; exact own_kat m2) (hb hby at_230) ?_
  refine E.dcmp (q := 232) X756 hx (hb hby at_231) ?_
  rw [own_dc]
  refine E.ifN (q := 235) X756 hx (hb hby at_232) (XT.i0_gt_f (fun q => (Int.not_lt.mpr le1) ((own_c_gt _ _).mp q))) ?_
  refine E.aload (q := 237) X756 hx (hb hby at_235) rfl rfl ?_
  refine E.iload (q := 239) X756 hx (hb hby at_237) rfl ?_
  refine Ends.dld X756 hx hZ e756 f762 (i := c4_0.toNatClampNeg) (own_idx m2) (v := .double (FP.i2d (KK c4_0))) (by rw [hKK]; exact own_kat m2) (hb hby at_239) ?_
  refine E.aload (q := 242) X756 hx (hb hby at_240) rfl rfl ?_
  refine E.iload (q := 244) X756 hx (hb hby at_242) rfl ?_
  refine Ends.dld X756 hx hZ e756 f762 (i := c3_0.toNatClampNeg) (own_idx m3) (v := .double (FP.i2d (KK c3_0))) (by rw [hKK]; exact own_kat m3) (hb hby at_244) ?_
  refine E.dcmp (q := 246) X756 hx (hb hby at_245) ?_
  rw [own_dc]
  refine E.ifN (q := 249) X756 hx (hb hby at_246) (XT.i0_gt_f (fun q => (Int.not_lt.mpr le2) ((own_c_gt _ _).mp q))) ?_
  refine E.aload (q := 251) X756 hx (hb hby at_249) rfl rfl ?_
  refine E.iload (q := 253) X756 hx (hb hby at_251) rfl ?_
  refine Ends.dld X756 hx hZ e756 f762 (i := c3_0.toNatClampNeg) (own_idx m3) (v := .double (FP.i2d (KK c3_0))) (by rw [hKK]; exact own_kat m3) (hb hby at_253) ?_
  refine E.aload (q := 256) X756 hx (hb hby at_254) rfl rfl ?_
  refine E.iload (q := 258) X756 hx (hb hby at_256) rfl ?_
  refine Ends.dld X756 hx hZ e756 f762 (i := c2_0.toNatClampNeg) (own_idx m4) (v := .double (FP.i2d (KK c2_0))) (by rw [hKK]; exact own_kat m4) (hb hby at_258) ?_
  refine E.dcmp (q := 260) X756 hx (hb hby at_259) ?_
  rw [own_dc]
  refine E.ifN (q := 263) X756 hx (hb hby at_260) (XT.i0_gt_f (fun q => (Int.not_lt.mpr le3) ((own_c_gt _ _).mp q))) ?_
  refine E.iconst (q := 264) (v := (1 : Int32)) X756 hx (hb hby at_263) rfl ?_
  refine E.goto (q := 268) X756 hx (hb hby at_264) ?_
  exact Ends.retS X756 hx hlk hret (by simp) rfl (hb hby at_268) (by decide) (by decide) ⟨rfl, O751.fr⟩
set_option maxRecDepth 65536 in
set_option maxHeartbeats 40000000 in
theorem comes_1 {Post : Tables → Env → Array Value → State → Outcome → State → Prop} (hpost : ∀ tb e args s v u, (limb_1_1.after args s (.returned v) u = true ∧ limb_1_2.after args s (.returned v) u = true) → FrameEnd s (.returned v) u (Jvm.fieldLocs frame_1_writes args s ++ Jvm.arrayLocs frame_1_arrays args s ++ Jvm.staticLocs frame_1_statics s) 16 384 → Post tb e args s (.returned v) u) :
    ArmFor flags0 classFile x code maxLocals ret World_1 tables_1 room_1 Calls_1 rest_1 Pre_1 Post := by
  intro l hfl _ _ p e ha hc hk s m args below hf hA hF happ hP
  obtain ⟨hcalls, hrest, hpre⟩ := hP
  obtain ⟨-, -, -, hnamed, -, -, -, hat⟩ := (Spec.applies_iff hf).mp happ
  obtain ⟨hg, hn⟩ := and_e (Cond.before_iff.mp (show (Jvm.Cond.and given_1 narrow_1).before args s = true from hpre))
  obtain ⟨g0, hg⟩ := and_e hg
  obtain ⟨ga0, hg⟩ := and_e hg
  obtain ⟨ga1, hg⟩ := and_e hg
  obtain ⟨ga2, hg⟩ := and_e hg
  obtain ⟨ga3, hg⟩ := and_e hg
  obtain ⟨w0, w1, w2, w3, w4, rfl⟩ : ∃ w0 w1 w2 w3 w4 : Value, args = #[w0, w1, w2, w3, w4] := by
    have hs : args.size = 5 := by simpa [Cond.value, given_1] using g0
    obtain ⟨L⟩ := args
    match L, hs with
    | [w0, w1, w2, w3, w4], _ => exact ⟨w0, w1, w2, w3, w4, rfl⟩
  have hw := fun d (hd : d ∈ tables_1) => atoms_spec (ws := Jvm.Cond.code x code maxLocals ret :: tables_1) hat d (List.mem_cons_of_mem _ hd)
  obtain ⟨i0, ei0⟩ := is_v ga0
  obtain rfl : w0 = (.int i0) := Option.some.inj ei0
  obtain ⟨i1, ei1⟩ := is_v ga1
  obtain rfl : w1 = (.int i1) := Option.some.inj ei1
  obtain ⟨i2, ei2⟩ := is_v ga2
  obtain rfl : w2 = (.int i2) := Option.some.inj ei2
  obtain ⟨i3, ei3⟩ := is_v ga3
  obtain rfl : w3 = (.int i3) := Option.some.inj ei3
  obtain ⟨i4, ei4⟩ := is_v hg
  obtain rfl : w4 = (.int i4) := Option.some.inj ei4
  obtain ⟨n, o, h1, h2, h3, _, L, rfl, ⟨rfl, N⟩, hq⟩ := rm0 l s _ hw i0 i1 i2 i3 i4 s.heap p e ha hc hk s m _ below hf ((Spec.applies_iff_loose hf).mp happ).1 ⟨rfl, State.Warmed39.refl s, rfl⟩ trivial
  exact ⟨n, _, h1, h2, h3, hpost _ _ _ _ _ _ ⟨Cond.after_iff.mpr rfl, Cond.after_iff.mpr (eq_i res_at (Term.int_eval (1)) rfl)⟩ ⟨hq.1, hq.2.1, (hq.2.2.sift fun y hy => Or.inr (N y hy)).mono (by decide) (by decide)⟩⟩
theorem main_1_1 : Claimed_1_1 := comes_1 fun _ _ _ _ _ _ h hF => ⟨h.1, hF⟩
theorem main_1_2 : Claimed_1_2 := comes_1 fun _ _ _ _ _ _ h hF => ⟨h.2, hF⟩
end Jvm.Pilot.@@N@@
namespace Jvm.Pilot.@@N@@
open Jvm Jvm.ClassFile Sem Op Lib Jvm.Free Jvm.Stand Jvm.Pilot.@@N@@.Jvm.D
/-! MADE BY PROGRAM (witnessworld.py) out of the Statement's table words and the real class files: 9 classes; the members and pool entries that the words name. The judged class is class 1, her method 1. -/
namespace start1
open Jvm.ClassFile
def u (s : String) : CpInfo := .utf8 (stringToUtf16 s)
/-- a pool by its gaps: so many unusable entries, then the entry; so many at the end -/
def gap : Nat → List CpInfo → List CpInfo
  | 0, r => r
  | n + 1, r => .unusable :: gap n r
def poolList (es : List (Nat × CpInfo)) (last : Nat) : List CpInfo := es.foldr (fun e r => gap e.1 (e.2 :: r)) (gap last [])
def pool (es : List (Nat × CpInfo)) (last : Nat) : Array CpInfo := ⟨poolList es last⟩
def fileOf (pool : Array CpInfo) (this : Nat) (attrs : Array Attribute := #[]) (ms : Array MethodInfo := #[]) (fl : Nat := 33) (sup : Nat := 0) (ifs : Array Nat := #[]) (fds : Array FieldInfo := #[]) : ClassFile where
  minorVersion := 0
  majorVersion := 65
  constantPool := pool
  accessFlags := fl
  thisClass := this
  superClass := sup
  interfaces := ifs
  fields := fds
  methods := ms
  attributes := attrs
def plain (name : String) (sup : Option ClassId) : Class where
  name := name
  kind := .ordinary
  loader := none
  accessFlags := 33
  super := sup
  interfaces := #[]
  cf := none
  fields := #[]
  methods := #[]
  instanceTypes := #[]
  staticTypes := #[]
  resolved := #[]
  callSites := []
  init := .initialized
  statics := none
  mirror := none

def pool0 : Array CpInfo := pool [(5, u "<init>"), (0, u "()V"), (1, .class_ 10), (1, u "java/lang/Object")] 113

def k0c0 : Code := { maxStack := 0, maxLocals := 1, code := object_method_1_code, exceptionTable := #[], attributes := #[] }
def k0m0 : Method := { name := "<init>", desc := "()V", sig := { parameters := [], returnType := none }, accessFlags := 1, code := some k0c0 }
/-- java/lang/Object -/
def k0 : Class := { plain "java/lang/Object" none with
  accessFlags := 33
  interfaces := #[]
  cf := some (fileOf pool0 8 #[] #[{ accessFlags := 1, nameIndex := 5, descriptorIndex := 6, attributes := #[] }] 33 0 #[] #[])
  fields := #[]
  methods := #[k0m0]
  instanceTypes := #[]
  staticTypes := #[]
  resolved := Array.replicate 124 none
  statics := none }

def pool1 : Array CpInfo := pool [(2, .class_ 4), (0, .nameAndType 5 6), (0, u "java/lang/Object"), (0, u "<init>"), (0, u "()V"), (0, .class_ 8), (0, u "com/example/hourline/hourline/engine/MinHeap"), (0, .methodref 7 3), (0, .methodref 7 11), (0, .nameAndType 12 13), (0, u "push"), (0, u "(DI)V"), (0, .methodref 7 15), (0, .nameAndType 16 17), (0, u "pop"), (0, u "()I"), (0, .methodref 19 20), (0, .class_ 21), (0, .nameAndType 22 23), (0, u "com/example/hourline/hourline/engine/MinHeapPopPinLaw"), (0, u "in"), (0, u "(I)Z"), (2, u "law"), (0, u "(IIIII)Z")] 5

def k1m0 : Method := { name := "<init>", desc := "()V", sig := { parameters := [], returnType := none }, accessFlags := 1, code := none }
def k1c1 : Code := { maxStack := 4, maxLocals := 13, code := code, exceptionTable := #[], attributes := #[] }
def k1m1 : Method := { name := "law", desc := "(IIIII)Z", sig := { parameters := [.int, .int, .int, .int, .int], returnType := some .boolean }, accessFlags := 9, code := some k1c1 }
def k1c2 : Code := { maxStack := 2, maxLocals := 1, code := method_3_code, exceptionTable := #[], attributes := #[] }
def k1m2 : Method := { name := "in", desc := "(I)Z", sig := { parameters := [.int], returnType := some .boolean }, accessFlags := 10, code := some k1c2 }
/-- com/example/hourline/hourline/engine/MinHeapPopPinLaw -/
def k1 : Class := { plain "com/example/hourline/hourline/engine/MinHeapPopPinLaw" (some 0) with
  accessFlags := 49
  interfaces := #[]
  cf := some (fileOf pool1 19 #[] #[{ accessFlags := 1, nameIndex := 5, descriptorIndex := 6, attributes := #[] }, { accessFlags := 9, nameIndex := 26, descriptorIndex := 27, attributes := #[] }, { accessFlags := 10, nameIndex := 22, descriptorIndex := 23, attributes := #[] }] 49 2 #[] #[])
  fields := #[]
  methods := #[k1m0, k1m1, k1m2]
  instanceTypes := #[]
  staticTypes := #[]
  resolved := Array.replicate 33 none
  statics := none }

def pool2 : Array CpInfo := pool [(1, .methodref 2 3), (0, .class_ 4), (0, .nameAndType 5 6), (0, u "java/lang/Object"), (0, u "<init>"), (0, u "()V"), (0, .fieldref 8 9), (0, .class_ 10), (0, .nameAndType 11 12), (0, u "com/example/hourline/hourline/engine/MinHeap"), (0, u "keys"), (0, u "[D"), (0, .fieldref 8 14), (0, .nameAndType 15 16), (0, u "values"), (0, u "[I"), (0, .fieldref 8 18), (0, .nameAndType 19 20), (0, u "size"), (0, u "I"), (14, u "push"), (0, u "(DI)V"), (2, u "pop"), (0, u "()I")] 2

def k2c0 : Code := { maxStack := 2, maxLocals := 1, code := prog_36_method_1_code, exceptionTable := #[], attributes := #[] }
def k2m0 : Method := { name := "<init>", desc := "()V", sig := { parameters := [], returnType := none }, accessFlags := 0, code := some k2c0 }
def k2c1 : Code := { maxStack := 5, maxLocals := 5, code := prog_36_method_3_code, exceptionTable := #[], attributes := #[] }
def k2m1 : Method := { name := "push", desc := "(DI)V", sig := { parameters := [.double, .int], returnType := none }, accessFlags := 0, code := some k2c1 }
def k2c2 : Code := { maxStack := 4, maxLocals := 7, code := prog_36_method_5_code, exceptionTable := #[], attributes := #[] }
def k2m2 : Method := { name := "pop", desc := "()I", sig := { parameters := [], returnType := some .int }, accessFlags := 0, code := some k2c2 }
/-- com/example/hourline/hourline/engine/MinHeap -/
def k2 : Class := { plain "com/example/hourline/hourline/engine/MinHeap" (some 0) with
  accessFlags := 48
  interfaces := #[]
  cf := some (fileOf pool2 8 #[] #[{ accessFlags := 0, nameIndex := 5, descriptorIndex := 6, attributes := #[] }, { accessFlags := 0, nameIndex := 35, descriptorIndex := 36, attributes := #[] }, { accessFlags := 0, nameIndex := 39, descriptorIndex := 40, attributes := #[] }] 48 2 #[] #[{ accessFlags := 2, nameIndex := 11, descriptorIndex := 12, attributes := #[] }, { accessFlags := 2, nameIndex := 15, descriptorIndex := 16, attributes := #[] }, { accessFlags := 2, nameIndex := 19, descriptorIndex := 20, attributes := #[] }])
  fields := #[{ name := "keys", type := (.array .double), accessFlags := 2, slot := 0, constantValue := 0 }, { name := "values", type := (.array .int), accessFlags := 2, slot := 1, constantValue := 0 }, { name := "size", type := .int, accessFlags := 2, slot := 2, constantValue := 0 }]
  methods := #[k2m0, k2m1, k2m2]
  instanceTypes := #[(.array .double), (.array .int), .int]
  staticTypes := #[]
  resolved := Array.replicate 43 none
  statics := none }

def pool3 : Array CpInfo := pool [(1, u "java/lang/Cloneable"), (0, .class_ 1), (0, u "java/lang/Object"), (0, .class_ 3)] 3

/-- java/lang/Cloneable -/
def k3 : Class := { plain "java/lang/Cloneable" (some 0) with
  accessFlags := 1537
  interfaces := #[]
  cf := some (fileOf pool3 2 #[] #[] 1537 4 #[] #[])
  fields := #[]
  methods := #[]
  instanceTypes := #[]
  staticTypes := #[]
  resolved := Array.replicate 8 none
  statics := none }

def pool4 : Array CpInfo := pool [(1, u "java/io/Serializable"), (0, .class_ 1), (0, u "java/lang/Object"), (0, .class_ 3)] 3

/-- java/io/Serializable -/
def k4 : Class := { plain "java/io/Serializable" (some 0) with
  accessFlags := 1537
  interfaces := #[]
  cf := some (fileOf pool4 2 #[] #[] 1537 4 #[] #[])
  fields := #[]
  methods := #[]
  instanceTypes := #[]
  staticTypes := #[]
  resolved := Array.replicate 8 none
  statics := none }

/-- the primitive byte -/
def k5 : Class := { plain "byte" none with kind := .primitive 'B', accessFlags := 0x411 }
/-- [B -/
def k6 : Class := { plain "[B" (some 0) with kind := .array 5 .byte, interfaces := #[3, 4], accessFlags := 1041 }

/-- the primitive int -/
def k7 : Class := { plain "int" none with kind := .primitive 'I', accessFlags := 0x411 }
/-- [I -/
def k8 : Class := { plain "[I" (some 0) with kind := .array 7 .int, interfaces := #[3, 4], accessFlags := 1041 }

def heap : Heap := #[]
/-- the primitive double -/
def kD0 : Class := { plain "double" none with kind := .primitive 'D', accessFlags := 0x411 }
/-- [D -/
def kD1 : Class := { plain "[D" (some 0) with kind := .array 9 .double, interfaces := #[3, 4], accessFlags := 1041 }
def classes : Array Class := #[k0, k1, k2, k3, k4, k5, k6, k7, k8, kD0, kD1]
def interned : List (Array UInt16 × Addr) := []
def slotsUsed : Nat := 0
def theMethod : MethodId := ⟨1, 1⟩
def args0 : Array Value := #[.int 5, .int 2, .int 7, .int 1, .int 3]
def aboutOver (below : List Frame) : State where
  vm := { classes := classes, interned := interned.toArray }
  heap := heap
  slotsUsed := slotsUsed
  threads := #[{ frames := .invoking theMethod args0 :: below }]
def below0 : List Frame := [.native { method := ⟨0, 0⟩, args := #[] }]
def about1 : State := aboutOver below0
def p0 : Program := .bare "" "" ""
def e0 : Env := launch0.env 0 0 0
theorem w_frames : about1.frames = Frame.invoking theMethod args0 :: below0 := rfl
set_option maxRecDepth 65536 in
theorem w_args : argsFit about1.vm theMethod args0 = true := by decide +kernel
set_option maxRecDepth 65536 in
theorem w_heap : heapFits about1 = true := by decide +kernel
set_option maxRecDepth 65536 in
theorem w_runnable : about1.curStatus? = some .runnable := by decide +kernel
set_option maxRecDepth 65536 in
theorem w_alone : about1.alone = true := by decide +kernel
set_option maxRecDepth 65536 in
theorem w_named : about1.methodNamed? x = some theMethod := by decide +kernel
set_option maxRecDepth 65536 in
theorem w_hears : about1.hears theMethod below0 = true := by decide +kernel
set_option maxRecDepth 65536 in
theorem w_ripe : about1.ripe theMethod args0 below0 = true := by decide +kernel
theorem w_running : about1.status = .running := rfl
set_option maxRecDepth 65536 in
theorem w_room : about1.hasRoom e0.platform room_1 = true :=
  launch0.hasRoom_least _ room_1 (by decide +kernel) (by decide +kernel) (by decide +kernel) (by decide +kernel) (by decide +kernel) (by decide +kernel)
theorem allAtoms_all (ts : List Jvm.Cond) (a : Array Jvm.Value) (st : Jvm.State) : (allAtoms ts).before a st = ts.all (fun c => c.before a st) := by
  induction ts with
  | nil => rfl
  | cons c t ih =>
    show (Jvm.Cond.and c (allAtoms t)).before a st = _
    rw [Jvm.Cond.before_and, ih, List.all_cons]
def words1 : List Jvm.Cond := Jvm.Cond.code x code maxLocals ret :: tables_1
/-- a 'code' word, met by the world's own term for the bytes: nothing is compared byte by byte -/
theorem code_word {y : MethodName} {bytes : ByteArray} {mx : Nat} {rt : Option FieldType} {a : Array Value} {s : State} {m : MethodId} {meth : Method} {c : Code} (h1 : s.methodNamed? y = some m) (h2 : s.vm.method? m = some meth) (h3 : meth.code = some c) (h4 : c.code = bytes)
    (h5 : (c.maxLocals == mx && c.exceptionTable.isEmpty && decide (c.maxStack ≤ mostOperands) && decide (meth.sig.returnType = rt) && !meth.locks && decide (parseMethodDescriptor y.desc = some meth.sig)) = true) : (Jvm.Cond.code y bytes mx rt).before a s = true := by
  simp only [Bool.and_eq_true, beq_iff_eq, Bool.not_eq_true', decide_eq_true_eq] at h5
  obtain ⟨⟨⟨⟨⟨g1, g2⟩, g3⟩, g4⟩, g5⟩, g6⟩ := h5
  simp [Cond.before, Cond.holds, Cond.value, h1, h2, h3, h4, g1, g2, g3, g4, g5, g6]
def isCode : Jvm.Cond → Bool
  | .code _ _ _ _ => true
  | _ => false
theorem all_split {L : List Jvm.Cond} {P : Jvm.Cond → Bool} (h1 : L.all (fun c => isCode c || P c) = true) (h2 : ∀ c ∈ L.filter isCode, P c = true) : L.all P = true := by
  refine List.all_eq_true.mpr fun c hc => ?_
  have h := List.all_eq_true.mp h1 c hc
  rcases Bool.eq_false_or_eq_true (isCode c) with hi | hi
  · exact h2 c (List.mem_filter.mpr ⟨hc, hi⟩)
  · simpa [hi] using h
set_option maxRecDepth 65536 in
theorem w_c0 : (Jvm.Cond.code x code maxLocals ret).before args0 about1 = true := code_word (m := ⟨1, 1⟩) (meth := k1m1) (c := k1c1) (by decide +kernel) rfl rfl rfl (by decide +kernel)
set_option maxRecDepth 65536 in
theorem w_c1 : (Jvm.Cond.code ({ cls := "com/example/hourline/hourline/engine/MinHeap", name := "<init>", desc := "()V" } : Jvm.MethodName) prog_36_method_1_code (1 : Nat) (Option.none : Option Jvm.ClassFile.FieldType)).before args0 about1 = true := code_word (m := ⟨2, 0⟩) (meth := k2m0) (c := k2c0) (by decide +kernel) rfl rfl rfl (by decide +kernel)
set_option maxRecDepth 65536 in
theorem w_c2 : (Jvm.Cond.code ({ cls := "java/lang/Object", name := "<init>", desc := "()V" } : Jvm.MethodName) object_method_1_code (1 : Nat) (Option.none : Option Jvm.ClassFile.FieldType)).before args0 about1 = true := code_word (m := ⟨0, 0⟩) (meth := k0m0) (c := k0c0) (by decide +kernel) rfl rfl rfl (by decide +kernel)
set_option maxRecDepth 65536 in
theorem w_c3 : (Jvm.Cond.code ({ cls := "com/example/hourline/hourline/engine/MinHeap", name := "push", desc := "(DI)V" } : Jvm.MethodName) prog_36_method_3_code (5 : Nat) (Option.none : Option Jvm.ClassFile.FieldType)).before args0 about1 = true := code_word (m := ⟨2, 1⟩) (meth := k2m1) (c := k2c1) (by decide +kernel) rfl rfl rfl (by decide +kernel)
set_option maxRecDepth 65536 in
theorem w_c4 : (Jvm.Cond.code ({ cls := "com/example/hourline/hourline/engine/MinHeap", name := "pop", desc := "()I" } : Jvm.MethodName) prog_36_method_5_code (7 : Nat) (Option.some Jvm.ClassFile.FieldType.int)).before args0 about1 = true := code_word (m := ⟨2, 2⟩) (meth := k2m2) (c := k2c2) (by decide +kernel) rfl rfl rfl (by decide +kernel)
set_option maxRecDepth 65536 in
theorem w_c5 : (Jvm.Cond.code ({ cls := "com/example/hourline/hourline/engine/MinHeapPopPinLaw", name := "in", desc := "(I)Z" } : Jvm.MethodName) method_3_code (1 : Nat) (Option.some Jvm.ClassFile.FieldType.boolean)).before args0 about1 = true := code_word (m := ⟨1, 2⟩) (meth := k1m2) (c := k1c2) (by decide +kernel) rfl rfl rfl (by decide +kernel)
def codes1 : List Jvm.Cond := [Jvm.Cond.code x code maxLocals ret, Jvm.Cond.code ({ cls := "com/example/hourline/hourline/engine/MinHeap", name := "<init>", desc := "()V" } : Jvm.MethodName) prog_36_method_1_code (1 : Nat) (Option.none : Option Jvm.ClassFile.FieldType), Jvm.Cond.code ({ cls := "java/lang/Object", name := "<init>", desc := "()V" } : Jvm.MethodName) object_method_1_code (1 : Nat) (Option.none : Option Jvm.ClassFile.FieldType), Jvm.Cond.code ({ cls := "com/example/hourline/hourline/engine/MinHeap", name := "push", desc := "(DI)V" } : Jvm.MethodName) prog_36_method_3_code (5 : Nat) (Option.none : Option Jvm.ClassFile.FieldType), Jvm.Cond.code ({ cls := "com/example/hourline/hourline/engine/MinHeap", name := "pop", desc := "()I" } : Jvm.MethodName) prog_36_method_5_code (7 : Nat) (Option.some Jvm.ClassFile.FieldType.int), Jvm.Cond.code ({ cls := "com/example/hourline/hourline/engine/MinHeapPopPinLaw", name := "in", desc := "(I)Z" } : Jvm.MethodName) method_3_code (1 : Nat) (Option.some Jvm.ClassFile.FieldType.boolean)]
set_option maxRecDepth 65536 in
theorem codes_eq : words1.filter isCode = codes1 := rfl
theorem w_codes : ∀ c ∈ words1.filter isCode, c.before args0 about1 = true := by
  rw [codes_eq]
  intro c hc
  simp only [codes1, List.mem_cons, List.not_mem_nil, or_false] at hc
  rcases hc with rfl | rfl | rfl | rfl | rfl | rfl
  · exact w_c0
  · exact w_c1
  · exact w_c2
  · exact w_c3
  · exact w_c4
  · exact w_c5
set_option maxRecDepth 65536 in
theorem w_t1 : (words1.take 24).all (fun c => isCode c || c.before args0 about1) = true := by decide +kernel
set_option maxRecDepth 65536 in
theorem w_t2 : (words1.drop 24).all (fun c => isCode c || c.before args0 about1) = true := by decide +kernel
theorem w_tables : (allAtoms (Jvm.Cond.code x code maxLocals ret :: tables_1)).before args0 about1 = true := by
  rw [allAtoms_all]
  show words1.all (fun c => c.before args0 about1) = true
  refine all_split ?_ w_codes
  rw [← List.take_append_drop 24 words1, List.all_append, w_t1, w_t2]
  rfl
set_option maxRecDepth 65536 in
theorem w_case : (Jvm.Cond.and given_1 narrow_1).before args0 about1 = true := by decide +kernel
theorem w_applies : (headSpec (Jvm.Cond.code x code maxLocals ret :: tables_1) room_1).applies x e0.platform about1 = true :=
  (Spec.applies_iff w_frames).mpr ⟨w_running, w_runnable, w_alone, w_named, w_hears, w_ripe, w_room, w_tables⟩
theorem atStart : AtStart classFile x code maxLocals ret World_1 tables_1 room_1 Calls_1 rest_1 Pre_1 launch0 p0 e0 about1 theMethod args0 below0 :=
  ⟨lists_1, trivial, launch0.admits_env _ _ _, launch0.least_env, fairChoices_fair.cas, fairChoices_fair.clock, w_frames, w_args, w_heap, w_applies, trivial, trivial, w_case⟩
end start1
theorem witness_1 : WitnessClaimed_1 := ⟨start1.p0, start1.e0, start1.about1, start1.theMethod, start1.args0, start1.below0, start1.atStart⟩
end Jvm.Pilot.@@N@@
