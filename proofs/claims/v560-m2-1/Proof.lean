import JvmDerived
import JvmDerived.Pilot.@@N@@Statement
import JvmDerived.Pilot.@@N@@Code
set_option linter.unusedVariables false
set_option linter.unusedSimpArgs false

namespace Jvm.Pilot.@@N@@
open Jvm Jvm.ClassFile Sem Op Lib Jvm.Free Jvm.Stand Jvm.LawKit Jvm.RoadKit Bundle Jvm.Pilot.@@N@@.Jvm.D
/-! own text: the run of a body in continuation form -/
section OwnKit
variable {p : Program} {l : Launch} {e : Env} {R : Room} {s : State} {m : MethodId} {args : Array Value} {below : List Frame} {meth : Method} {c : Code} {T : State} {locs : List Loc} {cells slots : Nat} {Z : State} {a0 : Array Value} {h : Heap} {Qb : Option Value → Heap → List Loc → Prop} {kc ks : Nat}
/-- from the state T with the frame g on top the run comes to the end of the body, and there Qb holds -/
def Ends (p : Program) (e : Env) (below : List Frame) (s : State) (Qb : Option Value → Heap → List Loc → Prop) (kc ks : Nat) (T : State) (g : JFrame) : Prop :=
  ∃ s₂ o, Steps p.tables e below (T.setTop g) s₂ ∧ s₂.status = .running ∧ Ended s₂ below o ∧ ∃ v L, o = .returned v ∧ Qb v s₂.heap L ∧ FrameEnd s o s₂ L kc ks
theorem Ends.go {T T' : State} {g g' : JFrame} (h : ∀ t, Steps p.tables e below (T'.setTop g') t → Steps p.tables e below (T.setTop g) t) (k : Ends p e below s Qb kc ks T' g') : Ends p e below s Qb kc ks T g := by
  obtain ⟨s2, o, st, r⟩ := k
  exact ⟨s2, o, h _ st, r⟩
theorem Ends.cast {T : State} {g g' : JFrame} (h : g = g') (k : Ends p e below s Qb kc ks T g') : Ends p e below s Qb kc ks T g := h ▸ k
abbrev Con (l : Launch) (y : MethodName) (code : ByteArray) (ml : Nat) (rt : Option FieldType) (ws : List Jvm.Cond) (rm : Room) (as' : Array Value) (Z : State) (h0 : Heap) (Q : Option Value → Heap → List Loc → Prop) : Prop :=
  MetFree l y (head1 (Jvm.Cond.code y code ml rt :: ws) rm) (fun a U => a = as' ∧ Z.Warmed39 U.vm ∧ U.heap = h0) (fun _ _ _ _ _ => True) (fun _ U o U' => ∃ v L, o = .returned v ∧ Q v U'.heap L ∧ FrameEnd U o U' L rm.cells rm.slots)
theorem Con.of {y : MethodName} {code : ByteArray} {ml : Nat} {rt : Option FieldType} {ws : List Jvm.Cond} {rm : Room} {as' : Array Value} {h0 : Heap} {Q : Option Value → Heap → List Loc → Prop} (hp : plainFor y = true)
    (k : ∀ (p : Program) (e : Env) (s : State) (m : MethodId) (below : List Frame) (meth : Method) (c : Code) (s₁ : State), p.tables.exec = Jvm.exec → Z.Warmed39 s.vm → c.code = code → c.maxLocals = ml → s.vm.findClass y.cls = some m.cls → meth.name = y.name → meth.sig.returnType = rt → meth.locks = false →
      Stand p l e rm s m as' below meth c s₁ [] 0 0 → s₁.heap = h0 → Ends p e below s Q rm.cells rm.slots s₁ (entryFrame m as' ml)) : Con l y code ml rt ws rm as' Z h0 Q := by
  refine MetFree.of_bodySF hp hisR ?_
  intro p e s m args below meth c s₁ Bd hml0 hP hK
  obtain ⟨rfl, hZ, hh⟩ := hP
  exact k p e s m below meth c s₁ Bd.exec hZ Bd.bytes hml0 (findClass_of_methodNamed Bd.named) (name_of_methodNamed Bd.named Bd.method).1 Bd.returns Bd.notSynchronized (Stand.of_body Bd) (by rw [← hh, Bd.state]; rfl)
theorem Ends.ret (X : Stand p l e R s m args below meth c T locs cells slots) (hx : p.tables.exec = Jvm.exec) (hlk : meth.locks = false) {pc : Nat} {Ls : Array Slot} {w : Value} {t : FieldType} {i : Instr} {rest : List Value} (hret : meth.sig.returnType = some t) (hn : narrow t w = w)
    (hi : (i = .ireturn ∧ (t = .int ∨ t = .boolean ∨ t = .byte ∨ t = .char ∨ t = .short) ∧ ∃ z, w = .int z) ∨ (i = .lreturn ∧ t = .long ∧ ∃ z, w = .long z) ∨ (i = .dreturn ∧ t = .double ∧ ∃ z, w = .double z) ∨ (i = .freturn ∧ t = .float ∧ ∃ z, w = .float z) ∨ (i = .areturn ∧ t.isReference = true ∧ w.isRef = true))
    (hd : decode c.code pc = .ok (i, 1)) (hc : cells ≤ kc) (hs : slots ≤ ks) (hQ : Qb (some w) T.heap locs) : Ends p e below s Qb kc ks T (mkF m pc Ls (w :: rest)) := by
  obtain ⟨fs, hr, hrun, hended, hW, hsame⟩ := X.leave (v := some w) (fun h => by rw [hret] at h; cases h) hlk
  exact ⟨_, _, retOut X hx hret hn hi hd hr, hrun, hended, _, _, rfl, hQ, ⟨_, rfl⟩, hW, hsame.mono hc hs⟩
theorem Ends.retI (X : Stand p l e R s m args below meth c T locs cells slots) (hx : p.tables.exec = Jvm.exec) (hlk : meth.locks = false) {pc : Nat} {Ls : Array Slot} {z : Int32} {rest : List Value} (hret : meth.sig.returnType = some .int) (hd : decode c.code pc = .ok (.ireturn, 1)) (hc : cells ≤ kc) (hs : slots ≤ ks) (hQ : Qb (some (.int z)) T.heap locs) : Ends p e below s Qb kc ks T (mkF m pc Ls (.int z :: rest)) :=
  Ends.ret X hx hlk hret rfl (Or.inl ⟨rfl, Or.inl rfl, _, rfl⟩) hd hc hs hQ
theorem Ends.retJ (X : Stand p l e R s m args below meth c T locs cells slots) (hx : p.tables.exec = Jvm.exec) (hlk : meth.locks = false) {pc : Nat} {Ls : Array Slot} {z : Int64} {rest : List Value} (hret : meth.sig.returnType = some .long) (hd : decode c.code pc = .ok (.lreturn, 1)) (hc : cells ≤ kc) (hs : slots ≤ ks) (hQ : Qb (some (.long z)) T.heap locs) : Ends p e below s Qb kc ks T (mkF m pc Ls (.long z :: rest)) :=
  Ends.ret X hx hlk hret rfl (Or.inr (Or.inl ⟨rfl, rfl, _, rfl⟩)) hd hc hs hQ
theorem Ends.retS (X : Stand p l e R s m args below meth c T locs cells slots) (hx : p.tables.exec = Jvm.exec) (hlk : meth.locks = false) {pc : Nat} {Ls : Array Slot} {z : Int32} {t : FieldType} {rest : List Value} (hret : meth.sig.returnType = some t) (ht : t = .boolean ∨ t = .byte ∨ t = .char ∨ t = .short) (hn : narrow t (.int z) = .int z) (hd : decode c.code pc = .ok (.ireturn, 1)) (hc : cells ≤ kc) (hs : slots ≤ ks) (hQ : Qb (some (.int z)) T.heap locs) : Ends p e below s Qb kc ks T (mkF m pc Ls (.int z :: rest)) :=
  Ends.ret X hx hlk hret hn (Or.inl ⟨rfl, Or.inr ht, _, rfl⟩) hd hc hs hQ
theorem Ends.retA (X : Stand p l e R s m args below meth c T locs cells slots) (hx : p.tables.exec = Jvm.exec) (hlk : meth.locks = false) {pc : Nat} {Ls : Array Slot} {w : Value} {t : FieldType} {rest : List Value} (hret : meth.sig.returnType = some t) (ht : t.isReference = true) (hw : w.isRef = true) (hn : narrow t w = w) (hd : decode c.code pc = .ok (.areturn, 1)) (hc : cells ≤ kc) (hs : slots ≤ ks) (hQ : Qb (some w) T.heap locs) : Ends p e below s Qb kc ks T (mkF m pc Ls (w :: rest)) :=
  Ends.ret X hx hlk hret hn (Or.inr (Or.inr (Or.inr (Or.inr ⟨rfl, ht, hw⟩)))) hd hc hs hQ
theorem Ends.retV (X : Stand p l e R s m args below meth c T locs cells slots) (hx : p.tables.exec = Jvm.exec) (hlk : meth.locks = false) {pc : Nat} {Ls : Array Slot} (hret : meth.sig.returnType = none) (hd : decode c.code pc = .ok (.return_, 1)) (hc : cells ≤ kc) (hs : slots ≤ ks) (hQ : Qb none T.heap locs) : Ends p e below s Qb kc ks T (mkF m pc Ls []) := by
  obtain ⟨fs, hr, hrun, hended, hW, hsame⟩ := X.leave (v := none) (fun _ => rfl) hlk
  exact ⟨_, _, X.returnOut hx hret hd hr, hrun, hended, _, _, rfl, hQ, ⟨_, rfl⟩, hW, hsame.mono hc hs⟩
/-- a static call by its contract -/
theorem Ends.callS (X : Stand p l e R s m args below meth c T locs cells slots) (hx : p.tables.exec = Jvm.exec) (hZ : Z.Warmed39 s.vm) {own : String} (hown : s.vm.findClass own = some m.cls) {index : Nat} {y : MethodName} {bytes : ByteArray} {maxL : Nat} {rt : Option FieldType} {rm : Room} {Q : Option Value → Heap → List Loc → Prop}
    (w1 : (Jvm.Cond.methodLink own index y).before a0 Z = true) (w2 : (Jvm.Cond.static y).before a0 Z = true) (w3 : (Jvm.Cond.initialized y.cls).before a0 Z = true) (w4 : (Jvm.Cond.code y bytes maxL rt).before a0 Z = true) (hy : y.cls ≠ "java/lang/invoke/MethodHandle" ∧ y.cls ≠ "java/lang/invoke/VarHandle")
    {argsL rest : List Value} (eT : T.heap = h) (M : Con l y bytes maxL rt [] rm argsL.toArray Z h Q) {W pc : Nat} (hf : rm.frames + 1 ≤ R.frames) (hl : W + (maxL + 11) + rm.locals ≤ R.locals) {Ls : Array Slot} (hsz : Ls.size = c.maxLocals)
    (hlen : ∀ sig, parseMethodDescriptor y.desc = some sig → argsL.length = sig.parameters.length) (hW : (rest.map fun v => v.category).sum ≤ W) (hd : decode c.code pc = .ok (.invokestatic index, 3)) (hc : cells + rm.cells ≤ R.cells) (hs : slots + rm.slots ≤ R.slots) {st : List Value} (hst : st = argsL.reverse ++ rest)
    (k : ∀ T' v L, Stand p l e R s m args below meth c T' (locs ++ L) (cells + rm.cells) (slots + rm.slots) → Q v T'.heap L → Ends p e below s Qb kc ks T' (mkF m (pc + 3) Ls (v.toList ++ rest))) :
    Ends p e below s Qb kc ks T (mkF m pc Ls st) := by
  obtain ⟨v, vm1, ⟨T1, L1, k1, n1⟩, -, X1, ⟨Lc, hQ, q1, q2, q3⟩, st1⟩ := Jvm.LawKit.callS X hx hown (mvT hZ w1) (mvT hZ w2) (mvT hZ w3) (mvT hZ w4) hy (backOf (W := W) M hZ w4 w3 hf hl) (g := mkF m pc Ls st) rfl hsz (argsL := argsL) (rest := rest) hlen hst (by show 2 * 0 + _ ≤ _; omega) hd (fun _ _ => ⟨rfl, eT, hc, hs⟩)
  dsimp only [Pt.U, Pt.locs, Pt.cells, Pt.slots] at X1 q1 q2 q3 st1 hQ
  subst q1 q2 q3
  exact Ends.go st1 (k T1 v Lc X1 hQ)
/-- a constructor by its contract -/
theorem Ends.callI (X : Stand p l e R s m args below meth c T locs cells slots) (hx : p.tables.exec = Jvm.exec) (hZ : Z.Warmed39 s.vm) {own : String} (hown : s.vm.findClass own = some m.cls) {index : Nat} {y : MethodName} {bytes : ByteArray} {maxL : Nat} {rm : Room} {Q : Option Value → Heap → List Loc → Prop}
    (w1 : (Jvm.Cond.methodLink own index y).before a0 Z = true) (w2 : (Jvm.Cond.instanceMethod y).before a0 Z = true) (w3 : (Jvm.Cond.initialized y.cls).before a0 Z = true) (w4 : (Jvm.Cond.code y bytes maxL none).before a0 Z = true) (hyn : y.name = "<init>") (hy : y.cls ≠ "java/lang/invoke/MethodHandle" ∧ y.cls ≠ "java/lang/invoke/VarHandle")
    {b : Addr} {argsL rest : List Value} (eT : T.heap = h) (M : Con l y bytes maxL none [] rm (.ref b :: argsL).toArray Z h Q) {W pc : Nat} (hf : rm.frames + 1 ≤ R.frames) (hl : W + (maxL + 11) + rm.locals ≤ R.locals) {Ls : Array Slot} (hsz : Ls.size = c.maxLocals)
    (hlen : ∀ sig, parseMethodDescriptor y.desc = some sig → argsL.length = sig.parameters.length) (hW : (rest.map fun v => v.category).sum ≤ W) (hd : decode c.code pc = .ok (.invokespecial index, 3)) (hc : cells + rm.cells ≤ R.cells) (hs : slots + rm.slots ≤ R.slots) {st : List Value} (hst : st = argsL.reverse ++ .ref b :: rest)
    (k : ∀ T' v L, Stand p l e R s m args below meth c T' (locs ++ L) (cells + rm.cells) (slots + rm.slots) → Q v T'.heap L → Ends p e below s Qb kc ks T' (mkF m (pc + 3) Ls (v.toList ++ rest))) :
    Ends p e below s Qb kc ks T (mkF m pc Ls st) := by
  obtain ⟨v, vm1, ⟨T1, L1, k1, n1⟩, -, X1, ⟨Lc, hQ, q1, q2, q3⟩, st1⟩ := X.specialBack hx hyn hown (mvT hZ w1) (mvT hZ w2) (mvT hZ w4) hy (backOf (W := W) M hZ w4 w3 hf hl) (g := mkF m pc Ls st) rfl hsz (Steps.refl _) (a := b) (argsL := argsL) (rest := rest) hlen hst (by show 2 * 0 + _ ≤ _; omega) hd (fun _ _ => ⟨rfl, eT, hc, hs⟩)
  dsimp only [Pt.U, Pt.locs, Pt.cells, Pt.slots] at X1 q1 q2 q3 st1 hQ
  subst q1 q2 q3
  exact Ends.go (fun t kt => st1.trans kt) (k T1 v Lc X1 hQ)
/-- an instance method by its contract -/
theorem Ends.callV (X : Stand p l e R s m args below meth c T locs cells slots) (hx : p.tables.exec = Jvm.exec) (hZ : Z.Warmed39 s.vm) {own C : String} (hown : s.vm.findClass own = some m.cls) {index : Nat} {y : MethodName} {bytes : ByteArray} {maxL : Nat} {rt : Option FieldType} {rm : Room} {Q : Option Value → Heap → List Loc → Prop}
    (w1 : (Jvm.Cond.methodLink own index y).before a0 Z = true) (w2 : (Jvm.Cond.declares y).before a0 Z = true) (w5 : (Jvm.Cond.selects C y y).before a0 Z = true) (w6 : (Jvm.Cond.instanceMethod y).before a0 Z = true) (w3 : (Jvm.Cond.initialized y.cls).before a0 Z = true) (w4 : (Jvm.Cond.code y bytes maxL rt).before a0 Z = true) (hy : y.cls ≠ "java/lang/invoke/MethodHandle" ∧ y.cls ≠ "java/lang/invoke/VarHandle")
    {b : Addr} {argsL rest : List Value} (eT : T.heap = h) (E : Exa Z h b C) (M : Con l y bytes maxL rt [] rm (.ref b :: argsL).toArray Z h Q) {W pc : Nat} (hf : rm.frames + 1 ≤ R.frames) (hl : W + (maxL + 11) + rm.locals ≤ R.locals) {Ls : Array Slot} (hsz : Ls.size = c.maxLocals)
    (hlen : ∀ sig, parseMethodDescriptor y.desc = some sig → argsL.length = sig.parameters.length) (hW : (rest.map fun v => v.category).sum ≤ W) (hd : decode c.code pc = .ok (.invokevirtual index, 3)) (hc : cells + rm.cells ≤ R.cells) (hs : slots + rm.slots ≤ R.slots) {st : List Value} (hst : st = argsL.reverse ++ .ref b :: rest)
    (k : ∀ T' v L, Stand p l e R s m args below meth c T' (locs ++ L) (cells + rm.cells) (slots + rm.slots) → Q v T'.heap L → Ends p e below s Qb kc ks T' (mkF m (pc + 3) Ls (v.toList ++ rest))) :
    Ends p e below s Qb kc ks T (mkF m pc Ls st) := by
  obtain ⟨cq, kq, qa, qb, qc⟩ := isOf (T := T) hZ eT E
  obtain ⟨v, vm1, ⟨T1, L1, k1, n1⟩, -, X1, ⟨Lc, hQ, q1, q2, q3⟩, st1⟩ := X.virtualBack hx (y := y) (z := y) hown (mvT hZ w1) (mvT hZ w2) (notFace_of_selects (args := #[]) (mvT hZ w5)) (mvT hZ w5) (mvT hZ w6) hy (backOf (W := W) M hZ w4 w3 hf hl) qa qc (g := mkF m pc Ls st) rfl hsz (Steps.refl _) (argsL := argsL) (rest := rest) hlen hst (by show 2 * 0 + _ ≤ _; omega) hd (fun _ _ => ⟨rfl, eT, hc, hs⟩)
  dsimp only [Pt.U, Pt.locs, Pt.cells, Pt.slots] at X1 q1 q2 q3 st1 hQ
  subst q1 q2 q3
  exact Ends.go (fun t kt => st1.trans kt) (k T1 v Lc X1 hQ)
end OwnKit
/-! own text, printed by mksteps.py: one lemma a plain instruction -/
section OwnSteps
variable {p : Program} {l : Launch} {e : Env} {R : Room} {s : State} {m : MethodId} {args : Array Value} {below : List Frame} {meth : Method} {c : Code} {T : State} {locs : List Loc} {cells slots : Nat} {Z : State} {a0 : Array Value} {h : Heap} {Qb : Option Value → Heap → List Loc → Prop} {kc ks : Nat} {Ls l' : Array Slot} {st : List Value} {pc q k : Nat} {kf : Fin 4} {k2 : Fin 2}
theorem E.iload {v : Int32} (X : Stand p l e R s m args below meth c T locs cells slots) (hx : p.tables.exec = Jvm.exec) (hd : decode c.code pc = .ok (.iload k, 2)) (hl : Ls[k]? = some (.val (.int v))) (k' : Ends p e below s Qb kc ks T (mkF m q Ls (.int v :: st))) (hq : pc + 2 = q := by rfl) : Ends p e below s Qb kc ks T (mkF m pc Ls st) := by
  subst hq; exact Ends.go (fun t => XS.iload X.here hx rfl hd hl) k'
theorem E.iloadN {v : Int32} (X : Stand p l e R s m args below meth c T locs cells slots) (hx : p.tables.exec = Jvm.exec) (hd : decode c.code pc = .ok (.iload_n kf, 1)) (hl : Ls[kf.val]? = some (.val (.int v))) (k' : Ends p e below s Qb kc ks T (mkF m q Ls (.int v :: st))) (hq : pc + 1 = q := by rfl) : Ends p e below s Qb kc ks T (mkF m pc Ls st) := by
  subst hq; exact Ends.go (fun t => XS.iloadN X.here hx rfl hd hl) k'
theorem E.istore {v : Int32} (X : Stand p l e R s m args below meth c T locs cells slots) (hx : p.tables.exec = Jvm.exec) (hd : decode c.code pc = .ok (.istore k, 2)) (hl : storeLocals Ls k (.int v) = some l') (k' : Ends p e below s Qb kc ks T (mkF m q l' st)) (hq : pc + 2 = q := by rfl) : Ends p e below s Qb kc ks T (mkF m pc Ls (.int v :: st)) := by
  subst hq; exact Ends.go (fun t => XS.istore X.here hx rfl hd rfl hl) k'
theorem E.istoreN {v : Int32} (X : Stand p l e R s m args below meth c T locs cells slots) (hx : p.tables.exec = Jvm.exec) (hd : decode c.code pc = .ok (.istore_n kf, 1)) (hl : storeLocals Ls kf.val (.int v) = some l') (k' : Ends p e below s Qb kc ks T (mkF m q l' st)) (hq : pc + 1 = q := by rfl) : Ends p e below s Qb kc ks T (mkF m pc Ls (.int v :: st)) := by
  subst hq; exact Ends.go (fun t => XS.istoreN X.here hx rfl hd rfl hl) k'
theorem E.lload {v : Int64} (X : Stand p l e R s m args below meth c T locs cells slots) (hx : p.tables.exec = Jvm.exec) (hd : decode c.code pc = .ok (.lload k, 2)) (hl : Ls[k]? = some (.val (.long v))) (k' : Ends p e below s Qb kc ks T (mkF m q Ls (.long v :: st))) (hq : pc + 2 = q := by rfl) : Ends p e below s Qb kc ks T (mkF m pc Ls st) := by
  subst hq; exact Ends.go (fun t => XS.lload X.here hx rfl hd hl) k'
theorem E.lloadN {v : Int64} (X : Stand p l e R s m args below meth c T locs cells slots) (hx : p.tables.exec = Jvm.exec) (hd : decode c.code pc = .ok (.lload_n kf, 1)) (hl : Ls[kf.val]? = some (.val (.long v))) (k' : Ends p e below s Qb kc ks T (mkF m q Ls (.long v :: st))) (hq : pc + 1 = q := by rfl) : Ends p e below s Qb kc ks T (mkF m pc Ls st) := by
  subst hq; exact Ends.go (fun t => XS.lloadN X.here hx rfl hd hl) k'
theorem E.lstore {v : Int64} (X : Stand p l e R s m args below meth c T locs cells slots) (hx : p.tables.exec = Jvm.exec) (hd : decode c.code pc = .ok (.lstore k, 2)) (hl : storeLocals Ls k (.long v) = some l') (k' : Ends p e below s Qb kc ks T (mkF m q l' st)) (hq : pc + 2 = q := by rfl) : Ends p e below s Qb kc ks T (mkF m pc Ls (.long v :: st)) := by
  subst hq; exact Ends.go (fun t => XS.lstore X.here hx rfl hd rfl hl) k'
theorem E.lstoreN {v : Int64} (X : Stand p l e R s m args below meth c T locs cells slots) (hx : p.tables.exec = Jvm.exec) (hd : decode c.code pc = .ok (.lstore_n kf, 1)) (hl : storeLocals Ls kf.val (.long v) = some l') (k' : Ends p e below s Qb kc ks T (mkF m q l' st)) (hq : pc + 1 = q := by rfl) : Ends p e below s Qb kc ks T (mkF m pc Ls (.long v :: st)) := by
  subst hq; exact Ends.go (fun t => XS.lstoreN X.here hx rfl hd rfl hl) k'
theorem E.dload {v : UInt64} (X : Stand p l e R s m args below meth c T locs cells slots) (hx : p.tables.exec = Jvm.exec) (hd : decode c.code pc = .ok (.dload k, 2)) (hl : Ls[k]? = some (.val (.double v))) (k' : Ends p e below s Qb kc ks T (mkF m q Ls (.double v :: st))) (hq : pc + 2 = q := by rfl) : Ends p e below s Qb kc ks T (mkF m pc Ls st) := by
  subst hq; exact Ends.go (fun t => XS.dload X.here hx rfl hd hl) k'
theorem E.dloadN {v : UInt64} (X : Stand p l e R s m args below meth c T locs cells slots) (hx : p.tables.exec = Jvm.exec) (hd : decode c.code pc = .ok (.dload_n kf, 1)) (hl : Ls[kf.val]? = some (.val (.double v))) (k' : Ends p e below s Qb kc ks T (mkF m q Ls (.double v :: st))) (hq : pc + 1 = q := by rfl) : Ends p e below s Qb kc ks T (mkF m pc Ls st) := by
  subst hq; exact Ends.go (fun t => XS.dloadN X.here hx rfl hd hl) k'
theorem E.dstore {v : UInt64} (X : Stand p l e R s m args below meth c T locs cells slots) (hx : p.tables.exec = Jvm.exec) (hd : decode c.code pc = .ok (.dstore k, 2)) (hl : storeLocals Ls k (.double v) = some l') (k' : Ends p e below s Qb kc ks T (mkF m q l' st)) (hq : pc + 2 = q := by rfl) : Ends p e below s Qb kc ks T (mkF m pc Ls (.double v :: st)) := by
  subst hq; exact Ends.go (fun t => XS.dstore X.here hx rfl hd rfl hl) k'
theorem E.dstoreN {v : UInt64} (X : Stand p l e R s m args below meth c T locs cells slots) (hx : p.tables.exec = Jvm.exec) (hd : decode c.code pc = .ok (.dstore_n kf, 1)) (hl : storeLocals Ls kf.val (.double v) = some l') (k' : Ends p e below s Qb kc ks T (mkF m q l' st)) (hq : pc + 1 = q := by rfl) : Ends p e below s Qb kc ks T (mkF m pc Ls (.double v :: st)) := by
  subst hq; exact Ends.go (fun t => XS.dstoreN X.here hx rfl hd rfl hl) k'
theorem E.aload {v : Value} (X : Stand p l e R s m args below meth c T locs cells slots) (hx : p.tables.exec = Jvm.exec) (hd : decode c.code pc = .ok (.aload k, 2)) (hl : Ls[k]? = some (.val v)) (hv : v.isRef = true) (k' : Ends p e below s Qb kc ks T (mkF m q Ls (v :: st))) (hq : pc + 2 = q := by rfl) : Ends p e below s Qb kc ks T (mkF m pc Ls st) := by
  subst hq; exact Ends.go (fun t => XS.aload X.here hx rfl hd hl hv) k'
theorem E.aloadN {v : Value} (X : Stand p l e R s m args below meth c T locs cells slots) (hx : p.tables.exec = Jvm.exec) (hd : decode c.code pc = .ok (.aload_n kf, 1)) (hl : Ls[kf.val]? = some (.val v)) (hv : v.isRef = true) (k' : Ends p e below s Qb kc ks T (mkF m q Ls (v :: st))) (hq : pc + 1 = q := by rfl) : Ends p e below s Qb kc ks T (mkF m pc Ls st) := by
  subst hq; exact Ends.go (fun t => XS.aloadN X.here hx rfl hd hl hv) k'
theorem E.astore {v : Value} (X : Stand p l e R s m args below meth c T locs cells slots) (hx : p.tables.exec = Jvm.exec) (hd : decode c.code pc = .ok (.astore k, 2)) (hv : v.isRef = true) (hl : storeLocals Ls k v = some l') (k' : Ends p e below s Qb kc ks T (mkF m q l' st)) (hq : pc + 2 = q := by rfl) : Ends p e below s Qb kc ks T (mkF m pc Ls (v :: st)) := by
  subst hq; exact Ends.go (fun t => XS.astore X.here hx rfl hd rfl hv hl) k'
theorem E.astoreN {v : Value} (X : Stand p l e R s m args below meth c T locs cells slots) (hx : p.tables.exec = Jvm.exec) (hd : decode c.code pc = .ok (.astore_n kf, 1)) (hv : v.isRef = true) (hl : storeLocals Ls kf.val v = some l') (k' : Ends p e below s Qb kc ks T (mkF m q l' st)) (hq : pc + 1 = q := by rfl) : Ends p e below s Qb kc ks T (mkF m pc Ls (v :: st)) := by
  subst hq; exact Ends.go (fun t => XS.astoreN X.here hx rfl hd rfl hv hl) k'
theorem E.iconst {i : Int} {v : Int32} (X : Stand p l e R s m args below meth c T locs cells slots) (hx : p.tables.exec = Jvm.exec) (hd : decode c.code pc = .ok (.iconst i, 1)) (hv : Int32.ofInt i = v) (k' : Ends p e below s Qb kc ks T (mkF m q Ls (.int v :: st))) (hq : pc + 1 = q := by rfl) : Ends p e below s Qb kc ks T (mkF m pc Ls st) := by
  subst hq; subst hv; exact Ends.go (fun t => XS.iconst X.here hx rfl hd) k'
theorem E.bipush {i : Int} {v : Int32} (X : Stand p l e R s m args below meth c T locs cells slots) (hx : p.tables.exec = Jvm.exec) (hd : decode c.code pc = .ok (.bipush i, 2)) (hv : (Int8.ofInt i).toInt32 = v) (k' : Ends p e below s Qb kc ks T (mkF m q Ls (.int v :: st))) (hq : pc + 2 = q := by rfl) : Ends p e below s Qb kc ks T (mkF m pc Ls st) := by
  subst hq; subst hv; exact Ends.go (fun t => XS.bipush X.here hx rfl hd) k'
theorem E.sipush {i : Int} {v : Int32} (X : Stand p l e R s m args below meth c T locs cells slots) (hx : p.tables.exec = Jvm.exec) (hd : decode c.code pc = .ok (.sipush i, 3)) (hv : (Int16.ofInt i).toInt32 = v) (k' : Ends p e below s Qb kc ks T (mkF m q Ls (.int v :: st))) (hq : pc + 3 = q := by rfl) : Ends p e below s Qb kc ks T (mkF m pc Ls st) := by
  subst hq; subst hv; exact Ends.go (fun t => XS.sipush X.here hx rfl hd) k'
theorem E.lconst {v : Int64} (X : Stand p l e R s m args below meth c T locs cells slots) (hx : p.tables.exec = Jvm.exec) (hd : decode c.code pc = .ok (.lconst k2, 1)) (hv : Int64.ofNat k2 = v) (k' : Ends p e below s Qb kc ks T (mkF m q Ls (.long v :: st))) (hq : pc + 1 = q := by rfl) : Ends p e below s Qb kc ks T (mkF m pc Ls st) := by
  subst hq; subst hv; exact Ends.go (fun t => XS.lconst X.here hx rfl hd) k'
theorem E.dconst0 {v : UInt64} (X : Stand p l e R s m args below meth c T locs cells slots) (hx : p.tables.exec = Jvm.exec) (hd : decode c.code pc = .ok (.dconst 0, 1)) (hv : FP.dconst0 = v) (k' : Ends p e below s Qb kc ks T (mkF m q Ls (.double v :: st))) (hq : pc + 1 = q := by rfl) : Ends p e below s Qb kc ks T (mkF m pc Ls st) := by
  subst hq; exact Ends.go (fun t => XS.dconst0 X.here hx rfl hd hv) k'
theorem E.dconst1 {v : UInt64} (X : Stand p l e R s m args below meth c T locs cells slots) (hx : p.tables.exec = Jvm.exec) (hd : decode c.code pc = .ok (.dconst 1, 1)) (hv : FP.dconst1 = v) (k' : Ends p e below s Qb kc ks T (mkF m q Ls (.double v :: st))) (hq : pc + 1 = q := by rfl) : Ends p e below s Qb kc ks T (mkF m pc Ls st) := by
  subst hq; exact Ends.go (fun t => XS.dconst1 X.here hx rfl hd hv) k'
theorem E.aconstNull  (X : Stand p l e R s m args below meth c T locs cells slots) (hx : p.tables.exec = Jvm.exec) (hd : decode c.code pc = .ok (.aconst_null, 1)) (k' : Ends p e below s Qb kc ks T (mkF m q Ls (.null :: st))) (hq : pc + 1 = q := by rfl) : Ends p e below s Qb kc ks T (mkF m pc Ls st) := by
  subst hq; exact Ends.go (fun t => XS.aconstNull X.here hx rfl hd) k'
theorem E.iadd {x y : Int32} (X : Stand p l e R s m args below meth c T locs cells slots) (hx : p.tables.exec = Jvm.exec) (hd : decode c.code pc = .ok (.iadd, 1)) (k' : Ends p e below s Qb kc ks T (mkF m q Ls (.int (x + y) :: st))) (hq : pc + 1 = q := by rfl) : Ends p e below s Qb kc ks T (mkF m pc Ls (.int y :: .int x :: st)) := by
  subst hq; exact Ends.go (fun t => XS.iadd X.here hx rfl hd rfl) k'
theorem E.isub {x y : Int32} (X : Stand p l e R s m args below meth c T locs cells slots) (hx : p.tables.exec = Jvm.exec) (hd : decode c.code pc = .ok (.isub, 1)) (k' : Ends p e below s Qb kc ks T (mkF m q Ls (.int (x - y) :: st))) (hq : pc + 1 = q := by rfl) : Ends p e below s Qb kc ks T (mkF m pc Ls (.int y :: .int x :: st)) := by
  subst hq; exact Ends.go (fun t => XS.isub X.here hx rfl hd rfl) k'
theorem E.imul {x y : Int32} (X : Stand p l e R s m args below meth c T locs cells slots) (hx : p.tables.exec = Jvm.exec) (hd : decode c.code pc = .ok (.imul, 1)) (k' : Ends p e below s Qb kc ks T (mkF m q Ls (.int (x * y) :: st))) (hq : pc + 1 = q := by rfl) : Ends p e below s Qb kc ks T (mkF m pc Ls (.int y :: .int x :: st)) := by
  subst hq; exact Ends.go (fun t => XS.imul X.here hx rfl hd rfl) k'
theorem E.iand {x y : Int32} (X : Stand p l e R s m args below meth c T locs cells slots) (hx : p.tables.exec = Jvm.exec) (hd : decode c.code pc = .ok (.iand, 1)) (k' : Ends p e below s Qb kc ks T (mkF m q Ls (.int (x &&& y) :: st))) (hq : pc + 1 = q := by rfl) : Ends p e below s Qb kc ks T (mkF m pc Ls (.int y :: .int x :: st)) := by
  subst hq; exact Ends.go (fun t => XS.iand X.here hx rfl hd rfl) k'
theorem E.ior {x y : Int32} (X : Stand p l e R s m args below meth c T locs cells slots) (hx : p.tables.exec = Jvm.exec) (hd : decode c.code pc = .ok (.ior, 1)) (k' : Ends p e below s Qb kc ks T (mkF m q Ls (.int (x ||| y) :: st))) (hq : pc + 1 = q := by rfl) : Ends p e below s Qb kc ks T (mkF m pc Ls (.int y :: .int x :: st)) := by
  subst hq; exact Ends.go (fun t => XS.ior X.here hx rfl hd rfl) k'
theorem E.ixor {x y : Int32} (X : Stand p l e R s m args below meth c T locs cells slots) (hx : p.tables.exec = Jvm.exec) (hd : decode c.code pc = .ok (.ixor, 1)) (k' : Ends p e below s Qb kc ks T (mkF m q Ls (.int (x ^^^ y) :: st))) (hq : pc + 1 = q := by rfl) : Ends p e below s Qb kc ks T (mkF m pc Ls (.int y :: .int x :: st)) := by
  subst hq; exact Ends.go (fun t => XS.ixor X.here hx rfl hd rfl) k'
theorem E.ladd {x y : Int64} (X : Stand p l e R s m args below meth c T locs cells slots) (hx : p.tables.exec = Jvm.exec) (hd : decode c.code pc = .ok (.ladd, 1)) (k' : Ends p e below s Qb kc ks T (mkF m q Ls (.long (x + y) :: st))) (hq : pc + 1 = q := by rfl) : Ends p e below s Qb kc ks T (mkF m pc Ls (.long y :: .long x :: st)) := by
  subst hq; exact Ends.go (fun t => XS.ladd X.here hx rfl hd rfl) k'
theorem E.lsub {x y : Int64} (X : Stand p l e R s m args below meth c T locs cells slots) (hx : p.tables.exec = Jvm.exec) (hd : decode c.code pc = .ok (.lsub, 1)) (k' : Ends p e below s Qb kc ks T (mkF m q Ls (.long (x - y) :: st))) (hq : pc + 1 = q := by rfl) : Ends p e below s Qb kc ks T (mkF m pc Ls (.long y :: .long x :: st)) := by
  subst hq; exact Ends.go (fun t => XS.lsub X.here hx rfl hd rfl) k'
theorem E.lmul {x y : Int64} (X : Stand p l e R s m args below meth c T locs cells slots) (hx : p.tables.exec = Jvm.exec) (hd : decode c.code pc = .ok (.lmul, 1)) (k' : Ends p e below s Qb kc ks T (mkF m q Ls (.long (x * y) :: st))) (hq : pc + 1 = q := by rfl) : Ends p e below s Qb kc ks T (mkF m pc Ls (.long y :: .long x :: st)) := by
  subst hq; exact Ends.go (fun t => XS.lmul X.here hx rfl hd rfl) k'
theorem E.land {x y : Int64} (X : Stand p l e R s m args below meth c T locs cells slots) (hx : p.tables.exec = Jvm.exec) (hd : decode c.code pc = .ok (.land, 1)) (k' : Ends p e below s Qb kc ks T (mkF m q Ls (.long (x &&& y) :: st))) (hq : pc + 1 = q := by rfl) : Ends p e below s Qb kc ks T (mkF m pc Ls (.long y :: .long x :: st)) := by
  subst hq; exact Ends.go (fun t => XS.land X.here hx rfl hd rfl) k'
theorem E.lor {x y : Int64} (X : Stand p l e R s m args below meth c T locs cells slots) (hx : p.tables.exec = Jvm.exec) (hd : decode c.code pc = .ok (.lor, 1)) (k' : Ends p e below s Qb kc ks T (mkF m q Ls (.long (x ||| y) :: st))) (hq : pc + 1 = q := by rfl) : Ends p e below s Qb kc ks T (mkF m pc Ls (.long y :: .long x :: st)) := by
  subst hq; exact Ends.go (fun t => XS.lor X.here hx rfl hd rfl) k'
theorem E.lxor {x y : Int64} (X : Stand p l e R s m args below meth c T locs cells slots) (hx : p.tables.exec = Jvm.exec) (hd : decode c.code pc = .ok (.lxor, 1)) (k' : Ends p e below s Qb kc ks T (mkF m q Ls (.long (x ^^^ y) :: st))) (hq : pc + 1 = q := by rfl) : Ends p e below s Qb kc ks T (mkF m pc Ls (.long y :: .long x :: st)) := by
  subst hq; exact Ends.go (fun t => XS.lxor X.here hx rfl hd rfl) k'
theorem E.ishl {x : Int32} {y : Int32} (X : Stand p l e R s m args below meth c T locs cells slots) (hx : p.tables.exec = Jvm.exec) (hd : decode c.code pc = .ok (.ishl, 1)) (k' : Ends p e below s Qb kc ks T (mkF m q Ls (.int (x <<< (y &&& 31)) :: st))) (hq : pc + 1 = q := by rfl) : Ends p e below s Qb kc ks T (mkF m pc Ls (.int y :: .int x :: st)) := by
  subst hq; exact Ends.go (fun t => XS.ishl X.here hx rfl hd rfl) k'
theorem E.ishr {x : Int32} {y : Int32} (X : Stand p l e R s m args below meth c T locs cells slots) (hx : p.tables.exec = Jvm.exec) (hd : decode c.code pc = .ok (.ishr, 1)) (k' : Ends p e below s Qb kc ks T (mkF m q Ls (.int (x >>> (y &&& 31)) :: st))) (hq : pc + 1 = q := by rfl) : Ends p e below s Qb kc ks T (mkF m pc Ls (.int y :: .int x :: st)) := by
  subst hq; exact Ends.go (fun t => XS.ishr X.here hx rfl hd rfl) k'
theorem E.iushr {x : Int32} {y : Int32} (X : Stand p l e R s m args below meth c T locs cells slots) (hx : p.tables.exec = Jvm.exec) (hd : decode c.code pc = .ok (.iushr, 1)) (k' : Ends p e below s Qb kc ks T (mkF m q Ls (.int ((x.toUInt32 >>> (y &&& 31).toUInt32).toInt32) :: st))) (hq : pc + 1 = q := by rfl) : Ends p e below s Qb kc ks T (mkF m pc Ls (.int y :: .int x :: st)) := by
  subst hq; exact Ends.go (fun t => XS.iushr X.here hx rfl hd rfl) k'
theorem E.lshl {x : Int64} {y : Int32} (X : Stand p l e R s m args below meth c T locs cells slots) (hx : p.tables.exec = Jvm.exec) (hd : decode c.code pc = .ok (.lshl, 1)) (k' : Ends p e below s Qb kc ks T (mkF m q Ls (.long (x <<< (y &&& 0x3f).toInt64) :: st))) (hq : pc + 1 = q := by rfl) : Ends p e below s Qb kc ks T (mkF m pc Ls (.int y :: .long x :: st)) := by
  subst hq; exact Ends.go (fun t => XS.lshl X.here hx rfl hd rfl) k'
theorem E.lshr {x : Int64} {y : Int32} (X : Stand p l e R s m args below meth c T locs cells slots) (hx : p.tables.exec = Jvm.exec) (hd : decode c.code pc = .ok (.lshr, 1)) (k' : Ends p e below s Qb kc ks T (mkF m q Ls (.long (x >>> (y &&& 0x3f).toInt64) :: st))) (hq : pc + 1 = q := by rfl) : Ends p e below s Qb kc ks T (mkF m pc Ls (.int y :: .long x :: st)) := by
  subst hq; exact Ends.go (fun t => XS.lshr X.here hx rfl hd rfl) k'
theorem E.lushr {x : Int64} {y : Int32} (X : Stand p l e R s m args below meth c T locs cells slots) (hx : p.tables.exec = Jvm.exec) (hd : decode c.code pc = .ok (.lushr, 1)) (k' : Ends p e below s Qb kc ks T (mkF m q Ls (.long ((x.toUInt64 >>> (y &&& 0x3f).toInt64.toUInt64).toInt64) :: st))) (hq : pc + 1 = q := by rfl) : Ends p e below s Qb kc ks T (mkF m pc Ls (.int y :: .long x :: st)) := by
  subst hq; exact Ends.go (fun t => XS.lushr X.here hx rfl hd rfl) k'
theorem E.ineg {x : Int32} (X : Stand p l e R s m args below meth c T locs cells slots) (hx : p.tables.exec = Jvm.exec) (hd : decode c.code pc = .ok (.ineg, 1)) (k' : Ends p e below s Qb kc ks T (mkF m q Ls (.int (-x) :: st))) (hq : pc + 1 = q := by rfl) : Ends p e below s Qb kc ks T (mkF m pc Ls (.int x :: st)) := by
  subst hq; exact Ends.go (fun t => XS.ineg X.here hx rfl hd rfl) k'
theorem E.lneg {x : Int64} (X : Stand p l e R s m args below meth c T locs cells slots) (hx : p.tables.exec = Jvm.exec) (hd : decode c.code pc = .ok (.lneg, 1)) (k' : Ends p e below s Qb kc ks T (mkF m q Ls (.long (-x) :: st))) (hq : pc + 1 = q := by rfl) : Ends p e below s Qb kc ks T (mkF m pc Ls (.long x :: st)) := by
  subst hq; exact Ends.go (fun t => XS.lneg X.here hx rfl hd rfl) k'
theorem E.i2l {x : Int32} (X : Stand p l e R s m args below meth c T locs cells slots) (hx : p.tables.exec = Jvm.exec) (hd : decode c.code pc = .ok (.i2l, 1)) (k' : Ends p e below s Qb kc ks T (mkF m q Ls (.long (x.toInt64) :: st))) (hq : pc + 1 = q := by rfl) : Ends p e below s Qb kc ks T (mkF m pc Ls (.int x :: st)) := by
  subst hq; exact Ends.go (fun t => XS.i2l X.here hx rfl hd rfl) k'
theorem E.l2i {x : Int64} (X : Stand p l e R s m args below meth c T locs cells slots) (hx : p.tables.exec = Jvm.exec) (hd : decode c.code pc = .ok (.l2i, 1)) (k' : Ends p e below s Qb kc ks T (mkF m q Ls (.int (x.toInt32) :: st))) (hq : pc + 1 = q := by rfl) : Ends p e below s Qb kc ks T (mkF m pc Ls (.long x :: st)) := by
  subst hq; exact Ends.go (fun t => XS.l2i X.here hx rfl hd rfl) k'
theorem E.i2b {x : Int32} (X : Stand p l e R s m args below meth c T locs cells slots) (hx : p.tables.exec = Jvm.exec) (hd : decode c.code pc = .ok (.i2b, 1)) (k' : Ends p e below s Qb kc ks T (mkF m q Ls (.int (x.toInt8.toInt32) :: st))) (hq : pc + 1 = q := by rfl) : Ends p e below s Qb kc ks T (mkF m pc Ls (.int x :: st)) := by
  subst hq; exact Ends.go (fun t => XS.i2b X.here hx rfl hd rfl) k'
theorem E.i2s {x : Int32} (X : Stand p l e R s m args below meth c T locs cells slots) (hx : p.tables.exec = Jvm.exec) (hd : decode c.code pc = .ok (.i2s, 1)) (k' : Ends p e below s Qb kc ks T (mkF m q Ls (.int (x.toInt16.toInt32) :: st))) (hq : pc + 1 = q := by rfl) : Ends p e below s Qb kc ks T (mkF m pc Ls (.int x :: st)) := by
  subst hq; exact Ends.go (fun t => XS.i2s X.here hx rfl hd rfl) k'
theorem E.i2c {x : Int32} (X : Stand p l e R s m args below meth c T locs cells slots) (hx : p.tables.exec = Jvm.exec) (hd : decode c.code pc = .ok (.i2c, 1)) (k' : Ends p e below s Qb kc ks T (mkF m q Ls (.int (x.toUInt32.toUInt16.toUInt32.toInt32) :: st))) (hq : pc + 1 = q := by rfl) : Ends p e below s Qb kc ks T (mkF m pc Ls (.int x :: st)) := by
  subst hq; exact Ends.go (fun t => XS.i2c X.here hx rfl hd rfl) k'
theorem E.i2d {x : Int32} (X : Stand p l e R s m args below meth c T locs cells slots) (hx : p.tables.exec = Jvm.exec) (hd : decode c.code pc = .ok (.i2d, 1)) (k' : Ends p e below s Qb kc ks T (mkF m q Ls (.double (FP.i2d x) :: st))) (hq : pc + 1 = q := by rfl) : Ends p e below s Qb kc ks T (mkF m pc Ls (.int x :: st)) := by
  subst hq; exact Ends.go (fun t => XS.i2dS X.here hx rfl hd rfl rfl) k'
theorem E.lcmp {x y : Int64} (X : Stand p l e R s m args below meth c T locs cells slots) (hx : p.tables.exec = Jvm.exec) (hd : decode c.code pc = .ok (.lcmp, 1)) (k' : Ends p e below s Qb kc ks T (mkF m q Ls (.int (lcmpW x y) :: st))) (hq : pc + 1 = q := by rfl) : Ends p e below s Qb kc ks T (mkF m pc Ls (.long y :: .long x :: st)) := by
  subst hq; exact Ends.go (fun t => XS.lcmp X.here hx rfl hd rfl) k'
theorem E.dcmp {x y : UInt64} {o : CmpOp} (X : Stand p l e R s m args below meth c T locs cells slots) (hx : p.tables.exec = Jvm.exec) (hd : decode c.code pc = .ok (.dcmp o, 1)) (k' : Ends p e below s Qb kc ks T (mkF m q Ls (.int (cmpValue (FP.dcmp x y) o) :: st))) (hq : pc + 1 = q := by rfl) : Ends p e below s Qb kc ks T (mkF m pc Ls (.double y :: .double x :: st)) := by
  subst hq; exact Ends.go (fun t => XS.dcmpS X.here hx rfl hd rfl rfl) k'
theorem E.idiv {x y : Int32} (X : Stand p l e R s m args below meth c T locs cells slots) (hx : p.tables.exec = Jvm.exec) (hd : decode c.code pc = .ok (.idiv, 1)) (hy : ¬ y = 0) (k' : Ends p e below s Qb kc ks T (mkF m q Ls (.int (x / y) :: st))) (hq : pc + 1 = q := by rfl) : Ends p e below s Qb kc ks T (mkF m pc Ls (.int y :: .int x :: st)) := by
  subst hq; exact Ends.go (fun t => XS.idiv X.here hx rfl hd rfl hy) k'
theorem E.irem {x y : Int32} (X : Stand p l e R s m args below meth c T locs cells slots) (hx : p.tables.exec = Jvm.exec) (hd : decode c.code pc = .ok (.irem, 1)) (hy : ¬ y = 0) (k' : Ends p e below s Qb kc ks T (mkF m q Ls (.int (x % y) :: st))) (hq : pc + 1 = q := by rfl) : Ends p e below s Qb kc ks T (mkF m pc Ls (.int y :: .int x :: st)) := by
  subst hq; exact Ends.go (fun t => iremM X hx rfl hd rfl hy) k'
theorem E.ldiv {x y : Int64} (X : Stand p l e R s m args below meth c T locs cells slots) (hx : p.tables.exec = Jvm.exec) (hd : decode c.code pc = .ok (.ldiv, 1)) (hy : ¬ y = 0) (k' : Ends p e below s Qb kc ks T (mkF m q Ls (.long (x / y) :: st))) (hq : pc + 1 = q := by rfl) : Ends p e below s Qb kc ks T (mkF m pc Ls (.long y :: .long x :: st)) := by
  subst hq; exact Ends.go (fun t => XS.ldiv X.here hx rfl hd rfl hy) k'
theorem E.lrem {x y : Int64} (X : Stand p l e R s m args below meth c T locs cells slots) (hx : p.tables.exec = Jvm.exec) (hd : decode c.code pc = .ok (.lrem, 1)) (hy : ¬ y = 0) (k' : Ends p e below s Qb kc ks T (mkF m q Ls (.long (x - (x / y) * y) :: st))) (hq : pc + 1 = q := by rfl) : Ends p e below s Qb kc ks T (mkF m pc Ls (.long y :: .long x :: st)) := by
  subst hq; exact Ends.go (fun t => XS.lrem X.here hx rfl hd rfl hy) k'
theorem E.iinc {x v : Int32} {cst : Int} (X : Stand p l e R s m args below meth c T locs cells slots) (hx : p.tables.exec = Jvm.exec) (hd : decode c.code pc = .ok (.iinc k cst, 3)) (hl : Ls[k]? = some (.val (.int x))) (hv : x + Int32.ofInt cst = v) (hl' : storeLocals Ls k (.int v) = some l') (k' : Ends p e below s Qb kc ks T (mkF m q l' st)) (hq : pc + 3 = q := by rfl) : Ends p e below s Qb kc ks T (mkF m pc Ls st) := by
  subst hq; subst hv; exact Ends.go (fun t => XS.iinc X.here hx rfl hd hl hl') k'
theorem E.dup {v : Value} (X : Stand p l e R s m args below meth c T locs cells slots) (hx : p.tables.exec = Jvm.exec) (hd : decode c.code pc = .ok (.dup, 1)) (hc : v.category = 1) (k' : Ends p e below s Qb kc ks T (mkF m q Ls (v :: v :: st))) (hq : pc + 1 = q := by rfl) : Ends p e below s Qb kc ks T (mkF m pc Ls (v :: st)) := by
  subst hq; exact Ends.go (fun t => XS.dup X.here hx rfl hd rfl hc) k'
theorem E.pop {v : Value} (X : Stand p l e R s m args below meth c T locs cells slots) (hx : p.tables.exec = Jvm.exec) (hd : decode c.code pc = .ok (.pop, 1)) (hc : v.category = 1) (k' : Ends p e below s Qb kc ks T (mkF m q Ls st)) (hq : pc + 1 = q := by rfl) : Ends p e below s Qb kc ks T (mkF m pc Ls (v :: st)) := by
  subst hq; exact Ends.go (fun t => XS.pop X.here hx rfl hd rfl hc) k'
theorem E.dupX1 {v w : Value} (X : Stand p l e R s m args below meth c T locs cells slots) (hx : p.tables.exec = Jvm.exec) (hd : decode c.code pc = .ok (.dup_x1, 1)) (hc : v.category = 1) (hc2 : w.category = 1) (k' : Ends p e below s Qb kc ks T (mkF m q Ls (v :: w :: v :: st))) (hq : pc + 1 = q := by rfl) : Ends p e below s Qb kc ks T (mkF m pc Ls (v :: w :: st)) := by
  subst hq; exact Ends.go (fun t => XS.dupX1 X.here hx rfl hd rfl hc hc2) k'
theorem E.icmpY {x y : Int32} {cd : ClassFile.Cond} {o : Int} (X : Stand p l e R s m args below meth c T locs cells slots) (hx : p.tables.exec = Jvm.exec) (hd : decode c.code pc = .ok (.if_icmp cd o, 3)) (hc : if_icmp.holds cd x y = true) (k' : Ends p e below s Qb kc ks T (mkF m q Ls st)) (ho : 0 ≤ (pc : Int) + o := by decide) (hq : ((pc : Int) + o).toNat = q := by decide) : Ends p e below s Qb kc ks T (mkF m pc Ls (.int y :: .int x :: st)) :=
  Ends.go (fun t => XS.icmpYes X.here hx rfl rfl hd rfl hc ho hq) k'
theorem E.icmpN {x y : Int32} {cd : ClassFile.Cond} {o : Int} (X : Stand p l e R s m args below meth c T locs cells slots) (hx : p.tables.exec = Jvm.exec) (hd : decode c.code pc = .ok (.if_icmp cd o, 3)) (hc : if_icmp.holds cd x y = false) (k' : Ends p e below s Qb kc ks T (mkF m q Ls st)) (hq : pc + 3 = q := by rfl) : Ends p e below s Qb kc ks T (mkF m pc Ls (.int y :: .int x :: st)) := by
  subst hq; exact Ends.go (fun t => XS.icmpNo X.here hx rfl hd rfl hc) k'
theorem E.ifY {x : Int32} {cd : ClassFile.Cond} {o : Int} (X : Stand p l e R s m args below meth c T locs cells slots) (hx : p.tables.exec = Jvm.exec) (hd : decode c.code pc = .ok (.ifCond cd o, 3)) (hc : ifCond.holds cd x = true) (k' : Ends p e below s Qb kc ks T (mkF m q Ls st)) (ho : 0 ≤ (pc : Int) + o := by decide) (hq : ((pc : Int) + o).toNat = q := by decide) : Ends p e below s Qb kc ks T (mkF m pc Ls (.int x :: st)) :=
  Ends.go (fun t => XS.ifYes X.here hx rfl rfl hd rfl hc ho hq) k'
theorem E.ifN {x : Int32} {cd : ClassFile.Cond} {o : Int} (X : Stand p l e R s m args below meth c T locs cells slots) (hx : p.tables.exec = Jvm.exec) (hd : decode c.code pc = .ok (.ifCond cd o, 3)) (hc : ifCond.holds cd x = false) (k' : Ends p e below s Qb kc ks T (mkF m q Ls st)) (hq : pc + 3 = q := by rfl) : Ends p e below s Qb kc ks T (mkF m pc Ls (.int x :: st)) := by
  subst hq; exact Ends.go (fun t => XS.ifNo X.here hx rfl hd rfl hc) k'
theorem E.goto {o : Int} (X : Stand p l e R s m args below meth c T locs cells slots) (hx : p.tables.exec = Jvm.exec) (hd : decode c.code pc = .ok (.goto o, 3)) (k' : Ends p e below s Qb kc ks T (mkF m q Ls st)) (ho : 0 ≤ (pc : Int) + o := by decide) (hq : ((pc : Int) + o).toNat = q := by decide) : Ends p e below s Qb kc ks T (mkF m pc Ls st) :=
  Ends.go (fun t => XS.goto X.here hx rfl rfl hd ho hq) k'
theorem E.nullY {o : Int} (X : Stand p l e R s m args below meth c T locs cells slots) (hx : p.tables.exec = Jvm.exec) (hd : decode c.code pc = .ok (.ifnull o, 3)) (k' : Ends p e below s Qb kc ks T (mkF m q Ls st)) (ho : 0 ≤ (pc : Int) + o := by decide) (hq : ((pc : Int) + o).toNat = q := by decide) : Ends p e below s Qb kc ks T (mkF m pc Ls (.null :: st)) :=
  Ends.go (fun t => XS.ifnullYes X.here hx rfl rfl hd rfl ho hq) k'
theorem E.nullN {o : Int} {b : Addr} (X : Stand p l e R s m args below meth c T locs cells slots) (hx : p.tables.exec = Jvm.exec) (hd : decode c.code pc = .ok (.ifnull o, 3)) (k' : Ends p e below s Qb kc ks T (mkF m q Ls st)) (hq : pc + 3 = q := by rfl) : Ends p e below s Qb kc ks T (mkF m pc Ls (.ref b :: st)) := by
  subst hq; exact Ends.go (fun t => XS.ifnullNo X.here hx rfl hd rfl) k'
theorem E.nonnullY {o : Int} {b : Addr} (X : Stand p l e R s m args below meth c T locs cells slots) (hx : p.tables.exec = Jvm.exec) (hd : decode c.code pc = .ok (.ifnonnull o, 3)) (k' : Ends p e below s Qb kc ks T (mkF m q Ls st)) (ho : 0 ≤ (pc : Int) + o := by decide) (hq : ((pc : Int) + o).toNat = q := by decide) : Ends p e below s Qb kc ks T (mkF m pc Ls (.ref b :: st)) :=
  Ends.go (fun t => XS.ifnonnullYes X.here hx rfl rfl hd rfl ho hq) k'
theorem E.nonnullN {o : Int} (X : Stand p l e R s m args below meth c T locs cells slots) (hx : p.tables.exec = Jvm.exec) (hd : decode c.code pc = .ok (.ifnonnull o, 3)) (k' : Ends p e below s Qb kc ks T (mkF m q Ls st)) (hq : pc + 3 = q := by rfl) : Ends p e below s Qb kc ks T (mkF m pc Ls (.null :: st)) := by
  subst hq; exact Ends.go (fun t => XS.ifnonnullNo X.here hx rfl hd rfl) k'
theorem E.ldc {v : Int32} {own : String} {index : Nat} (X : Stand p l e R s m args below meth c T locs cells slots) (hx : p.tables.exec = Jvm.exec) (hZ : Z.Warmed39 s.vm) (hown : s.vm.findClass own = some m.cls) (hc : (Jvm.Cond.constant own index v).before a0 Z = true) (hd : decode c.code pc = .ok (.ldc index, 2)) (k' : Ends p e below s Qb kc ks T (mkF m q Ls (.int v :: st))) (hq : pc + 2 = q := by rfl) : Ends p e below s Qb kc ks T (mkF m pc Ls st) := by
  subst hq; exact Ends.go (fun t => X.ldcI hx hown (mvT hZ hc) rfl hd) k'
theorem E.ldcW {v : Int32} {own : String} {index : Nat} (X : Stand p l e R s m args below meth c T locs cells slots) (hx : p.tables.exec = Jvm.exec) (hZ : Z.Warmed39 s.vm) (hown : s.vm.findClass own = some m.cls) (hc : (Jvm.Cond.constant own index v).before a0 Z = true) (hd : decode c.code pc = .ok (.ldc_w index, 3)) (k' : Ends p e below s Qb kc ks T (mkF m q Ls (.int v :: st))) (hq : pc + 3 = q := by rfl) : Ends p e below s Qb kc ks T (mkF m pc Ls st) := by
  subst hq; exact Ends.go (fun t => X.ldcWI hx hown (mvT hZ hc) rfl hd) k'
theorem E.ldc2 {v : Int64} {own : String} {index : Nat} (X : Stand p l e R s m args below meth c T locs cells slots) (hx : p.tables.exec = Jvm.exec) (hZ : Z.Warmed39 s.vm) (hown : s.vm.findClass own = some m.cls) (hc : (Jvm.Cond.constantLong own index v).before a0 Z = true) (hd : decode c.code pc = .ok (.ldc2_w index, 3)) (k' : Ends p e below s Qb kc ks T (mkF m q Ls (.long v :: st))) (hq : pc + 3 = q := by rfl) : Ends p e below s Qb kc ks T (mkF m pc Ls st) := by
  subst hq; exact Ends.go (fun t => X.ldc2J hx hown (mvT hZ hc) rfl hd) k'
end OwnSteps
/-! own text: arrays by their whole contents; what a body may have done to the heap -/
section OwnHeap
variable {p : Program} {l : Launch} {e : Env} {R : Room} {s : State} {m : MethodId} {args : Array Value} {below : List Frame} {meth : Method} {c : Code} {T : State} {locs : List Loc} {cells slots : Nat} {Z : State} {a0 : Array Value} {h h' h0 : Heap} {Qb : Option Value → Heap → List Loc → Prop} {kc ks : Nat} {a b : Addr} {ty : FieldType} {vs : List Value} {v : Value} {sl i : Nat} {ws ws' : List Addr} {L L' : List Loc} {pc : Nat} {Ls : Array Slot} {st : List Value} {j : Int32}
def Ary (Z : State) (h : Heap) (a : Addr) (ty : FieldType) (vs : List Value) : Prop := ∃ c : Cell, Arr Z h a c ty ∧ c.slots = vs.toArray ∧ vs.length < 2 ^ 31
theorem Ary.lt (A : Ary Z h a ty vs) : a < h.size := by obtain ⟨c, A, -⟩ := A; exact A.lt
theorem Ary.ext (E : Ext h h') (A : Ary Z h a ty vs) : Ary Z h' a ty vs := by obtain ⟨c, A, r⟩ := A; exact ⟨c, A.ext E, r⟩
theorem Ary.other (W : Wr h h' b sl v) (A : Ary Z h a ty vs) (q : a ≠ b) : Ary Z h' a ty vs := by obtain ⟨c, A, r⟩ := A; exact ⟨c, Arr.other W A q, r⟩
theorem Ary.keep (A : Ary Z h a ty vs) (K : Keep h h' ws) (q : a ∉ ws) : Ary Z h' a ty vs := by obtain ⟨c, A, r⟩ := A; exact ⟨c, ⟨K.2.1 a c A.1 q, A.2⟩, r⟩
theorem Ary.set (A : Ary Z h a ty vs) (W : Wr h h' a i v) : Ary Z h' a ty (vs.set i v) := by
  obtain ⟨c, A, e, l⟩ := A
  refine ⟨c.setSlot i v, Arr.same W A, ?_, by rw [List.length_set]; exact l⟩
  show c.slots.setIfInBounds i v = _
  rw [e]; simp
theorem own_ofNat {i : Nat} (h : i < 2 ^ 31) : (Int32.ofNat i).toInt = (i : Int) := by
  rw [Int32.toInt_ofNat_of_lt h]
theorem own_clamp {i : Nat} (h : i < 2 ^ 31) : (Int32.ofNat i).toNatClampNeg = i ∧ ¬ (Int32.ofNat i) < 0 := by
  have q := own_ofNat h
  refine ⟨?_, ?_⟩
  · show (Int32.ofNat i).toInt.toNat = i
    omega
  · rw [Int32.lt_iff_toInt_lt]
    have : (0 : Int32).toInt = 0 := by decide
    omega
theorem Ary.new {k : ClassId} {n : Int32} {N : Nat} (A : Arr Z h a (newA k ty n) ty) (hn : n = Int32.ofNat N) (hN : N < 2 ^ 31) : Ary Z h a ty (List.replicate N (defaultValue ty)) := by
  refine ⟨_, A, ?_, by rw [List.length_replicate]; exact hN⟩
  subst hn
  show Array.replicate (Int32.ofNat N).toNatClampNeg (defaultValue ty) = _
  rw [(own_clamp hN).1]; simp
theorem own_inb {c : Cell} (e : c.slots = vs.toArray) (l : vs.length < 2 ^ 31) (hj : j = Int32.ofNat i) (hi : i < vs.length) : ¬ (j < 0 ∨ c.slots.size ≤ j.toNatClampNeg) := by
  subst hj
  have q := own_clamp (i := i) (by omega)
  rw [q.1, e]
  rintro (r | r)
  · exact q.2 r
  · simp at r; omega
theorem own_at {c : Cell} (e : c.slots = vs.toArray) (l : vs.length < 2 ^ 31) (hj : j = Int32.ofNat i) (hv : vs[i]? = some v) : ¬ (j < 0 ∨ c.slots.size ≤ j.toNatClampNeg) ∧ c.slots[j.toNatClampNeg]? = some v := by
  have hi : i < vs.length := (List.getElem?_eq_some_iff.mp hv).1
  refine ⟨own_inb e l hj hi, ?_⟩
  subst hj
  rw [(own_clamp (i := i) (by omega)).1, e]
  simpa using hv
/-- what the walk has done so far: of the elder cells only those in ws are written -/
def Ok (h0 h : Heap) (ws : List Addr) (L : List Loc) : Prop := Keep h0 h ws ∧ ∀ y ∈ L, y.base ∈ ws ∨ h0.size ≤ y.base
theorem Ok.refl (h : Heap) (ws : List Addr) : Ok h h ws [] := ⟨Keep.refl h ws, fun _ q => nomatch q⟩
theorem Ok.ext (O : Ok h0 h ws L) (E : Ext h h') : Ok h0 h' ws L := ⟨O.1.ext E, O.2⟩
theorem Ok.wr (O : Ok h0 h ws L) (W : Wr h h' a sl v) (q : a ∈ ws ∨ h0.size ≤ a) : Ok h0 h' ws (L ++ [⟨a, sl⟩]) :=
  ⟨O.1.wr W q, fun y hy => (List.mem_append.mp hy).elim (O.2 y) fun r => by cases List.mem_singleton.mp r; exact q⟩
theorem Ok.call (O : Ok h0 h ws L) (O' : Ok h h' ws' L') (q : ∀ x ∈ ws', x ∈ ws ∨ h0.size ≤ x) : Ok h0 h' ws (L ++ L') :=
  ⟨O.1.trans O'.1 q, fun y hy => (List.mem_append.mp hy).elim (O.2 y) fun r => (O'.2 y r).elim (q _) fun u => Or.inr (Nat.le_trans O.1.1 u)⟩
theorem Ok.fr (O : Ok h0 h [] L) : Fr h0.size L := fun y hy => (O.2 y hy).elim (fun q => nomatch q) id
theorem Ok.le (O : Ok h0 h ws L) : h0.size ≤ h.size := O.1.1
theorem Ends.alen (X : Stand p l e R s m args below meth c T locs cells slots) (hx : p.tables.exec = Jvm.exec) (hZ : Z.Warmed39 s.vm) (eT : T.heap = h) (A : Ary Z h a ty vs) (hd : decode c.code pc = .ok (.arraylength, 1)) {n : Int32} (hn : Int32.ofNat vs.length = n)
    (k : Ends p e below s Qb kc ks T (mkF m (pc + 1) Ls (.int n :: st))) : Ends p e below s Qb kc ks T (mkF m pc Ls (.ref a :: st)) := by
  obtain ⟨cl, A, q, -⟩ := A
  refine Ends.go (fun t => X.arraylength hx (cell := cl) (by rw [eT]; exact A.1) (State.isArrayOf_alike hZ.alike A.2.1) (g := mkF m pc Ls (.ref a :: st)) rfl (rest := st) rfl hd t) ?_
  have e1 : cl.slots.size.toInt32 = n := by rw [q, ← hn]; simp
  rw [e1]; exact k
theorem Ends.ild (X : Stand p l e R s m args below meth c T locs cells slots) (hx : p.tables.exec = Jvm.exec) (hZ : Z.Warmed39 s.vm) (eT : T.heap = h) (A : Ary Z h a .int vs) (hj : j = Int32.ofNat i) (hv : vs[i]? = some v) (hd : decode c.code pc = .ok (.iaload, 1))
    (k : Ends p e below s Qb kc ks T (mkF m (pc + 1) Ls (v :: st))) : Ends p e below s Qb kc ks T (mkF m pc Ls (.int j :: .ref a :: st)) := by
  obtain ⟨cl, A, q, q2⟩ := A
  obtain ⟨r1, r2⟩ := own_at q q2 hj hv
  exact Ends.go (fun t => X.iaload hx (by rw [eT]; exact A.1) (State.isArrayOf_alike hZ.alike A.2.1) A.2.2 r1 r2 (g := mkF m pc Ls (.int j :: .ref a :: st)) rfl rfl hd t) k
theorem Ends.cld (X : Stand p l e R s m args below meth c T locs cells slots) (hx : p.tables.exec = Jvm.exec) (hZ : Z.Warmed39 s.vm) (eT : T.heap = h) (A : Ary Z h a .char vs) (hj : j = Int32.ofNat i) (hv : vs[i]? = some v) (hd : decode c.code pc = .ok (.caload, 1))
    (k : Ends p e below s Qb kc ks T (mkF m (pc + 1) Ls (v :: st))) : Ends p e below s Qb kc ks T (mkF m pc Ls (.int j :: .ref a :: st)) := by
  obtain ⟨cl, A, q, q2⟩ := A
  obtain ⟨r1, r2⟩ := own_at q q2 hj hv
  exact Ends.go (fun t => X.caload hx (by rw [eT]; exact A.1) (State.isArrayOf_alike hZ.alike A.2.1) A.2.2 r1 r2 (g := mkF m pc Ls (.int j :: .ref a :: st)) rfl rfl hd t) k
theorem Ends.bld (X : Stand p l e R s m args below meth c T locs cells slots) (hx : p.tables.exec = Jvm.exec) (hZ : Z.Warmed39 s.vm) (eT : T.heap = h) (A : Ary Z h a .byte vs) (hj : j = Int32.ofNat i) (hv : vs[i]? = some v) (hd : decode c.code pc = .ok (.baload, 1))
    (k : Ends p e below s Qb kc ks T (mkF m (pc + 1) Ls (v :: st))) : Ends p e below s Qb kc ks T (mkF m pc Ls (.int j :: .ref a :: st)) := by
  obtain ⟨cl, A, q, q2⟩ := A
  obtain ⟨r1, r2⟩ := own_at q q2 hj hv
  exact Ends.go (fun t => X.baloadBytes hx (by rw [eT]; exact A.1) (State.isArrayOf_alike hZ.alike A.2.1) A.2.2 r1 r2 (g := mkF m pc Ls (.int j :: .ref a :: st)) rfl rfl hd t) k
theorem Ends.dld (X : Stand p l e R s m args below meth c T locs cells slots) (hx : p.tables.exec = Jvm.exec) (hZ : Z.Warmed39 s.vm) (eT : T.heap = h) (A : Ary Z h a .double vs) (hj : j = Int32.ofNat i) (hv : vs[i]? = some v) (hd : decode c.code pc = .ok (.daload, 1))
    (k : Ends p e below s Qb kc ks T (mkF m (pc + 1) Ls (v :: st))) : Ends p e below s Qb kc ks T (mkF m pc Ls (.int j :: .ref a :: st)) := by
  obtain ⟨cl, A, q, q2⟩ := A
  obtain ⟨r1, r2⟩ := own_at q q2 hj hv
  exact Ends.go (fun t => X.daload hx (by rw [eT]; exact A.1) (State.isArrayOf_alike hZ.alike A.2.1) A.2.2 r1 r2 (g := mkF m pc Ls (.int j :: .ref a :: st)) rfl rfl hd t) k
theorem Ends.ald (X : Stand p l e R s m args below meth c T locs cells slots) (hx : p.tables.exec = Jvm.exec) (hZ : Z.Warmed39 s.vm) (eT : T.heap = h) (A : Ary Z h a ty vs) (hty : ty.isReference = true) (hj : j = Int32.ofNat i) (hv : vs[i]? = some v) (hd : decode c.code pc = .ok (.aaload, 1))
    (k : Ends p e below s Qb kc ks T (mkF m (pc + 1) Ls (v :: st))) : Ends p e below s Qb kc ks T (mkF m pc Ls (.int j :: .ref a :: st)) := by
  obtain ⟨cl, A, q, q2⟩ := A
  obtain ⟨r1, r2⟩ := own_at q q2 hj hv
  exact Ends.go (fun t => X.aaload hx (by rw [eT]; exact A.1) (State.isArrayOf_alike hZ.alike A.2.1) hty A.2.2 r1 r2 (g := mkF m pc Ls (.int j :: .ref a :: st)) rfl rfl hd t) k
theorem Ends.ist (X : Stand p l e R s m args below meth c T locs cells slots) (hx : p.tables.exec = Jvm.exec) (hZ : Z.Warmed39 s.vm) (eT : T.heap = h) (A : Ary Z h a .int vs) {x : Int32} (hj : j = Int32.ofNat i) (hi : i < vs.length) (hd : decode c.code pc = .ok (.iastore, 1))
    (k : ∀ T' h', Stand p l e R s m args below meth c T' (locs ++ [⟨a, i⟩]) cells slots → T'.heap = h' → Wr h h' a i (.int x) → Ary Z h' a .int (vs.set i (.int x)) → Ends p e below s Qb kc ks T' (mkF m (pc + 1) Ls st)) : Ends p e below s Qb kc ks T (mkF m pc Ls (.int x :: .int j :: .ref a :: st)) := by
  obtain ⟨cl, A', q, q2⟩ := id A
  obtain ⟨T', h', X', e', W, st'⟩ := stI X hx hZ eT A' (j := j) (own_inb q q2 hj hi) (g := mkF m pc Ls (.int x :: .int j :: .ref a :: st)) rfl rfl hd
  have hc : j.toNatClampNeg = i := by rw [hj]; exact (own_clamp (by omega)).1
  rw [hc] at X' W
  exact Ends.go st' (k T' h' X' e' W (A.set W))
theorem Ends.cst (X : Stand p l e R s m args below meth c T locs cells slots) (hx : p.tables.exec = Jvm.exec) (hZ : Z.Warmed39 s.vm) (eT : T.heap = h) (A : Ary Z h a .char vs) {x x' : Int32} (hxx : nar .char x = x') (hj : j = Int32.ofNat i) (hi : i < vs.length) (hd : decode c.code pc = .ok (.castore, 1))
    (k : ∀ T' h', Stand p l e R s m args below meth c T' (locs ++ [⟨a, i⟩]) cells slots → T'.heap = h' → Wr h h' a i (.int x') → Ary Z h' a .char (vs.set i (.int x')) → Ends p e below s Qb kc ks T' (mkF m (pc + 1) Ls st)) : Ends p e below s Qb kc ks T (mkF m pc Ls (.int x :: .int j :: .ref a :: st)) := by
  obtain ⟨cl, A', q, q2⟩ := id A
  obtain ⟨T', h', X', e', W, st'⟩ := stC X hx hZ eT A' (j := j) (own_inb q q2 hj hi) (g := mkF m pc Ls (.int x :: .int j :: .ref a :: st)) rfl rfl hd
  have hc : j.toNatClampNeg = i := by rw [hj]; exact (own_clamp (by omega)).1
  rw [hc] at X' W
  rw [hxx] at W
  exact Ends.go st' (k T' h' X' e' W (A.set W))
theorem Ends.bst (X : Stand p l e R s m args below meth c T locs cells slots) (hx : p.tables.exec = Jvm.exec) (hZ : Z.Warmed39 s.vm) (eT : T.heap = h) (A : Ary Z h a .byte vs) {x x' : Int32} (hxx : nar .byte x = x') (hj : j = Int32.ofNat i) (hi : i < vs.length) (hd : decode c.code pc = .ok (.bastore, 1))
    (k : ∀ T' h', Stand p l e R s m args below meth c T' (locs ++ [⟨a, i⟩]) cells slots → T'.heap = h' → Wr h h' a i (.int x') → Ary Z h' a .byte (vs.set i (.int x')) → Ends p e below s Qb kc ks T' (mkF m (pc + 1) Ls st)) : Ends p e below s Qb kc ks T (mkF m pc Ls (.int x :: .int j :: .ref a :: st)) := by
  obtain ⟨cl, A', q, q2⟩ := id A
  obtain ⟨T', h', X', e', W, st'⟩ := stB X hx hZ eT A' (j := j) (own_inb q q2 hj hi) (g := mkF m pc Ls (.int x :: .int j :: .ref a :: st)) rfl rfl hd
  have hc : j.toNatClampNeg = i := by rw [hj]; exact (own_clamp (by omega)).1
  rw [hc] at X' W
  rw [hxx] at W
  exact Ends.go st' (k T' h' X' e' W (A.set W))
theorem Ends.dst (X : Stand p l e R s m args below meth c T locs cells slots) (hx : p.tables.exec = Jvm.exec) (hZ : Z.Warmed39 s.vm) (eT : T.heap = h) (A : Ary Z h a .double vs) {x : UInt64} (hj : j = Int32.ofNat i) (hi : i < vs.length) (hd : decode c.code pc = .ok (.dastore, 1))
    (k : ∀ T' h', Stand p l e R s m args below meth c T' (locs ++ [⟨a, i⟩]) cells slots → T'.heap = h' → Wr h h' a i (.double x) → Ary Z h' a .double (vs.set i (.double x)) → Ends p e below s Qb kc ks T' (mkF m (pc + 1) Ls st)) : Ends p e below s Qb kc ks T (mkF m pc Ls (.double x :: .int j :: .ref a :: st)) := by
  obtain ⟨cl, A', q, q2⟩ := id A
  obtain ⟨T', h', X', e', W, st'⟩ := stD X hx hZ eT A' (j := j) (own_inb q q2 hj hi) (g := mkF m pc Ls (.double x :: .int j :: .ref a :: st)) rfl rfl hd
  have hc : j.toNatClampNeg = i := by rw [hj]; exact (own_clamp (by omega)).1
  rw [hc] at X' W
  exact Ends.go st' (k T' h' X' e' W (A.set W))
theorem Ends.newA (X : Stand p l e R s m args below meth c T locs cells slots) (hx : p.tables.exec = Jvm.exec) (hZ : Z.Warmed39 s.vm) {aty : ArrayType} (w : (Jvm.Cond.arrayClass (newarray.typeOf aty)).before a0 Z = true) (eT : T.heap = h) (hd : decode c.code pc = .ok (.newarray aty, 2)) {n : Int32} {N : Nat} (hn : n = Int32.ofNat N) (hN : N * 8 ≤ 536870912) (hc : cells + 1 ≤ R.cells) (hl : slots + N ≤ R.slots)
    (k : ∀ T' h' b, b = h.size → Stand p l e R s m args below meth c T' locs (cells + 1) (slots + N) → T'.heap = h' → Ext h h' → Ary Z h' b (newarray.typeOf aty) (List.replicate N (defaultValue (newarray.typeOf aty))) → Ends p e below s Qb kc ks T' (mkF m (pc + 2) Ls (.ref b :: st))) : Ends p e below s Qb kc ks T (mkF m pc Ls (.int n :: st)) := by
  have q := own_clamp (i := N) (by omega)
  obtain ⟨T', h', cA, X', e', E, A, st'⟩ := newP X hx hZ w eT (g := mkF m pc Ls (.int n :: st)) rfl hd rfl (by rw [hn]; exact q.2) (cap := N) (by rw [hn, q.1]; exact Nat.le_refl _) hN hc hl
  exact Ends.go st' (k T' h' _ rfl X' e' E (Ary.new A hn (by omega)))
theorem Ends.newC (X : Stand p l e R s m args below meth c T locs cells slots) (hx : p.tables.exec = Jvm.exec) (hZ : Z.Warmed39 s.vm) {own C : String} {index n : Nat} (hown : s.vm.findClass own = some m.cls) (w : (Jvm.Cond.classLink own index C).before a0 Z = true) (wi : (Jvm.Cond.instantiable C n).before a0 Z = true) (wz : (Jvm.Cond.initialized C).before a0 Z = true) (eT : T.heap = h) (hd : decode c.code pc = .ok (.new index, 3)) (hc : cells + 1 ≤ R.cells) (hl : slots + n ≤ R.slots)
    (k : ∀ T' h' b, b = h.size → Stand p l e R s m args below meth c T' locs (cells + 1) (slots + n) → T'.heap = h' → Ext h h' → Exa Z h' b C → (∀ {O nm d : String} {ty : FieldType}, Laid Z a0 C O nm d → parseFieldDescriptor d = some ty → Fld Z h' b O nm d (defaultValue ty)) → Ends p e below s Qb kc ks T' (mkF m (pc + 3) Ls (.ref b :: st))) : Ends p e below s Qb kc ks T (mkF m pc Ls st) := by
  obtain ⟨T', h', X', e', E, A, D, -, st'⟩ := newO X hx hZ hown w wi wz eT (g := mkF m pc Ls st) rfl hd hc hl
  exact Ends.go st' (k T' h' _ rfl X' e' E A D)
end OwnHeap
section OwnHeap2
variable {p : Program} {l : Launch} {e : Env} {R : Room} {s : State} {m : MethodId} {args : Array Value} {below : List Frame} {meth : Method} {c : Code} {T : State} {locs : List Loc} {cells slots : Nat} {Z : State} {a0 : Array Value} {h h' h0 : Heap} {Qb : Option Value → Heap → List Loc → Prop} {kc ks : Nat} {a b : Addr} {ty : FieldType} {v v' old : Value} {pc index kk : Nat} {Ls : Array Slot} {st : List Value} {own R0 O n d host C : String}
theorem Ends.getF (X : Stand p l e R s m args below meth c T locs cells slots) (hx : p.tables.exec = Jvm.exec) (hZ : Z.Warmed39 s.vm) (hown : s.vm.findClass own = some m.cls) (w : (Jvm.Cond.fieldLink own index R0 n d).before a0 Z = true ∨ (Jvm.Cond.fieldLinkNest own index R0 n d host).before a0 Z = true) (via : Via Z R0 O n d) (eT : T.heap = h) (F : Fld Z h a O n d v) (hd : decode c.code pc = .ok (.getfield index, 3))
    (k : ∀ T', Stand p l e R s m args below meth c T' locs cells slots → T'.heap = h → Ends p e below s Qb kc ks T' (mkF m (pc + 3) Ls (v :: st))) : Ends p e below s Qb kc ks T (mkF m pc Ls (.ref a :: st)) := by
  obtain ⟨T', X', e', st'⟩ := Jvm.RoadKit.getF X hx hZ hown w via eT F (g := mkF m pc Ls (.ref a :: st)) rfl rfl hd
  exact Ends.go st' (k T' X' e')
theorem Ends.putF (X : Stand p l e R s m args below meth c T locs cells slots) (hx : p.tables.exec = Jvm.exec) (hZ : Z.Warmed39 s.vm) (hown : s.vm.findClass own = some m.cls) (w : (Jvm.Cond.fieldLink own index R0 n d).before a0 Z = true ∨ (Jvm.Cond.fieldLinkNest own index R0 n d host).before a0 Z = true) (via : Via Z R0 O n d) (eT : T.heap = h) (F : Fld Z h a O n d old) (E : Exa Z h a C) (L : (Jvm.Cond.lays C O n d).before a0 Z = true ∨ ((Jvm.Cond.laysFinal C O n d).before a0 Z = true ∧ own = O ∧ meth.name = "<init>")) (wi : (Jvm.Cond.instantiable C kk).before a0 Z = true) (hty : parseFieldDescriptor d = some ty) (hn : narrow ty v = v) (hf : fits ty v = true) (hd : decode c.code pc = .ok (.putfield index, 3))
    (k : ∀ T' h', Stand p l e R s m args below meth c T' (locs ++ [⟨a, Jvm.RoadKit.slotOf Z O n d⟩]) cells slots → T'.heap = h' → Wr h h' a (Jvm.RoadKit.slotOf Z O n d) v → Fld Z h' a O n d v → Ends p e below s Qb kc ks T' (mkF m (pc + 3) Ls st)) : Ends p e below s Qb kc ks T (mkF m pc Ls (v :: .ref a :: st)) := by
  obtain ⟨T', h', X', e', W, st'⟩ := Jvm.RoadKit.putF X hx hZ hown w via eT F E L wi hty hn hf (g := mkF m pc Ls (v :: .ref a :: st)) rfl rfl hd
  exact Ends.go st' (k T' h' X' e' W (F.same W))
theorem Ends.putN (X : Stand p l e R s m args below meth c T locs cells slots) (hx : p.tables.exec = Jvm.exec) (hZ : Z.Warmed39 s.vm) (hown : s.vm.findClass own = some m.cls) (w : (Jvm.Cond.fieldLink own index R0 n d).before a0 Z = true) (via : Via Z R0 O n d) (eT : T.heap = h) (F : Fld Z h a O n d old) (E : Exa Z h a C) (L : (Jvm.Cond.lays C O n d).before a0 Z = true ∨ ((Jvm.Cond.laysFinal C O n d).before a0 Z = true ∧ own = O ∧ meth.name = "<init>")) (wi : (Jvm.Cond.instantiable C kk).before a0 Z = true) (hty : parseFieldDescriptor d = some ty) (hn : narrow ty v = v') (hf : fits ty v' = true) (hd : decode c.code pc = .ok (.putfield index, 3))
    (k : ∀ T' h', Stand p l e R s m args below meth c T' (locs ++ [⟨a, Jvm.RoadKit.slotOf Z O n d⟩]) cells slots → T'.heap = h' → Wr h h' a (Jvm.RoadKit.slotOf Z O n d) v' → Fld Z h' a O n d v' → Ends p e below s Qb kc ks T' (mkF m (pc + 3) Ls st)) : Ends p e below s Qb kc ks T (mkF m pc Ls (v :: .ref a :: st)) := by
  obtain ⟨T', h', X', e', W, st'⟩ := Jvm.RoadKit.putFN X hx hZ hown w via eT F E L wi hty hn hf (g := mkF m pc Ls (v :: .ref a :: st)) rfl rfl hd
  exact Ends.go st' (k T' h' X' e' W (F.same W))
theorem Ends.initO (X : Stand p l e R s m args below meth c T locs cells slots) (hx : p.tables.exec = Jvm.exec) (hZ : Z.Warmed39 s.vm) (hown : s.vm.findClass own = some m.cls) (w1 : (Jvm.Cond.methodLink own index Lib.objectInit).before a0 Z = true) (w2 : (Jvm.Cond.instanceMethod Lib.objectInit).before a0 Z = true) (w3 : (Jvm.Cond.code Lib.objectInit ⟨#[0xb1]⟩ 1 none).before a0 Z = true) (eT : T.heap = h) (hsz : Ls.size = c.maxLocals) (hd : decode c.code pc = .ok (.invokespecial index, 3)) (hf : 1 ≤ R.frames) {W : Nat} (hW : (st.map fun v => v.category).sum ≤ W) (hl : W + 12 ≤ R.locals)
    (k : ∀ T', Stand p l e R s m args below meth c T' locs cells slots → T'.heap = h → Ends p e below s Qb kc ks T' (mkF m (pc + 3) Ls st)) : Ends p e below s Qb kc ks T (mkF m pc Ls (.ref a :: st)) := by
  obtain ⟨T', X', e', st'⟩ := Jvm.RoadKit.initO X hx hZ hown w1 w2 w3 eT (g := mkF m pc Ls (.ref a :: st)) rfl hsz rfl hd hf (W := W) (by show 2 * 0 + _ ≤ _; omega) hl
  exact Ends.go st' (k T' X' e')
end OwnHeap2
section OwnHeap3
variable {p : Program} {l : Launch} {e : Env} {R : Room} {s : State} {m : MethodId} {args : Array Value} {below : List Frame} {meth : Method} {c : Code} {T : State} {locs : List Loc} {cells slots : Nat} {Z : State} {a0 : Array Value} {h h' h0 : Heap} {Qb : Option Value → Heap → List Loc → Prop} {kc ks : Nat} {a b y : Addr} {ty : FieldType} {vs : List Value} {v : Value} {sl i : Nat} {ws : List Addr} {pc q index : Nat} {Ls : Array Slot} {st : List Value} {j : Int32} {own C n d O R0 host : String}
theorem own_sta_keep (F : Sta Z h C n d v) (K : Keep h h' ws) (q : ∀ x ∈ ws, ∀ cell : Cell, h[x]? = some cell → cell.vm.isStatics = false) : Sta Z h' C n d v := by
  obtain ⟨cf, i, k, f, st, cell, h1, h2, h3, h4, h5, h6, h7⟩ := F
  have ni : st ∉ ws := fun m => by rw [q st m cell h5] at h6; cases h6
  exact ⟨cf, i, k, f, st, cell, h1, h2, h3, h4, K.2.1 st cell h5 ni, h6, h7⟩
theorem own_ns (E : Exa Z h a C) : ∀ x ∈ [a], ∀ cell : Cell, h[x]? = some cell → cell.vm.isStatics = false := fun x m cell q => by
  cases List.mem_singleton.mp m
  obtain ⟨c1, _, h1, -, -, h4, -⟩ := E
  cases h1.symm.trans q; exact h4
theorem own_ns0 : ∀ x ∈ ([] : List Addr), ∀ cell : Cell, h[x]? = some cell → cell.vm.isStatics = false := fun x m => nomatch m
theorem Ends.getS (X : Stand p l e R s m args below meth c T locs cells slots) (hx : p.tables.exec = Jvm.exec) (hZ : Z.Warmed39 s.vm) (hown : s.vm.findClass own = some m.cls) (w : (Jvm.Cond.fieldLink own index R0 n d).before a0 Z = true ∨ (Jvm.Cond.fieldLinkNest own index R0 n d host).before a0 Z = true) (via : Via Z R0 O n d) (eT : T.heap = h) (F : Sta Z h O n d v) (hd : decode c.code pc = .ok (.getstatic index, 3))
    (k : ∀ T', Stand p l e R s m args below meth c T' locs cells slots → T'.heap = h → Ends p e below s Qb kc ks T' (mkF m (pc + 3) Ls (v :: st))) : Ends p e below s Qb kc ks T (mkF m pc Ls st) := by
  obtain ⟨T', X', e', st'⟩ := getS2 X hx hZ hown w via eT F (g := mkF m pc Ls st) rfl hd
  exact Ends.go st' (k T' X' e')
theorem E.ldc2D {w : UInt64} (X : Stand p l e R s m args below meth c T locs cells slots) (hx : p.tables.exec = Jvm.exec) (hZ : Z.Warmed39 s.vm) (hown : s.vm.findClass own = some m.cls) (hc : (Jvm.Cond.constantDouble own index w).before a0 Z = true) (hd : decode c.code pc = .ok (.ldc2_w index, 3)) (k' : Ends p e below s Qb kc ks T (mkF m q Ls (.double w :: st))) (hq : pc + 3 = q := by rfl) : Ends p e below s Qb kc ks T (mkF m pc Ls st) := by
  subst hq; exact Ends.go (fun t => X.ldc2DoubleC hx hown (mvT hZ hc) (g := mkF m pc Ls st) rfl hd t) k'
theorem Ends.retD (X : Stand p l e R s m args below meth c T locs cells slots) (hx : p.tables.exec = Jvm.exec) (hlk : meth.locks = false) {z : UInt64} (hret : meth.sig.returnType = some .double) (hd : decode c.code pc = .ok (.dreturn, 1)) (hc : cells ≤ kc) (hs : slots ≤ ks) (hQ : Qb (some (.double z)) T.heap locs) : Ends p e below s Qb kc ks T (mkF m pc Ls (.double z :: st)) :=
  Ends.ret X hx hlk hret rfl (Or.inr (Or.inr (Or.inl ⟨rfl, rfl, _, rfl⟩))) hd hc hs hQ
/-- an array of arrays, with what may lie in it -/
def Ar2 (Z : State) (h : Heap) (a : Addr) (ty : FieldType) (C : String) (vs : List Value) : Prop := ∃ c : Cell, Arr Z h a c (.array ty) ∧ c.slots = vs.toArray ∧ vs.length < 2 ^ 31 ∧ OvrA Z c.cls ty C
theorem Ar2.ary (A : Ar2 Z h a ty C vs) : Ary Z h a (.array ty) vs := by obtain ⟨c, A, q, r, -⟩ := A; exact ⟨c, A, q, r⟩
theorem Ar2.lt (A : Ar2 Z h a ty C vs) : a < h.size := A.ary.lt
theorem Ar2.ext (E : Ext h h') (A : Ar2 Z h a ty C vs) : Ar2 Z h' a ty C vs := by obtain ⟨c, A, r⟩ := A; exact ⟨c, A.ext E, r⟩
theorem Ar2.other (W : Wr h h' b sl v) (A : Ar2 Z h a ty C vs) (q : a ≠ b) : Ar2 Z h' a ty C vs := by obtain ⟨c, A, r⟩ := A; exact ⟨c, Arr.other W A q, r⟩
theorem Ar2.keep (A : Ar2 Z h a ty C vs) (K : Keep h h' ws) (q : a ∉ ws) : Ar2 Z h' a ty C vs := by obtain ⟨c, A, r⟩ := A; exact ⟨c, ⟨K.2.1 a c A.1 q, A.2⟩, r⟩
theorem Ar2.set (A : Ar2 Z h a ty C vs) (W : Wr h h' a i v) : Ar2 Z h' a ty C (vs.set i v) := by
  obtain ⟨c, A, e, l, o⟩ := A
  refine ⟨c.setSlot i v, Arr.same W A, ?_, by rw [List.length_set]; exact l, o⟩
  show c.slots.setIfInBounds i v = _
  rw [e]; simp
theorem Ends.newA2 (X : Stand p l e R s m args below meth c T locs cells slots) (hx : p.tables.exec = Jvm.exec) (hZ : Z.Warmed39 s.vm) (hown : s.vm.findClass own = some m.cls) (hC : (FieldType.array ty).toString = C) (w1 : (Jvm.Cond.classLink own index C).before a0 Z = true) (w2 : (Jvm.Cond.arrayOver (.array ty)).before a0 Z = true) (eT : T.heap = h) (hd : decode c.code pc = .ok (.anewarray index, 3)) {n : Int32} {N : Nat} (hn : n = Int32.ofNat N) (hN : N * 8 ≤ 536870912) (hc : cells + 1 ≤ R.cells) (hl : slots + N ≤ R.slots)
    (k : ∀ T' h' b, b = h.size → Stand p l e R s m args below meth c T' locs (cells + 1) (slots + N) → T'.heap = h' → Ext h h' → Ar2 Z h' b ty C (List.replicate N .null) → Ends p e below s Qb kc ks T' (mkF m (pc + 3) Ls (.ref b :: st))) : Ends p e below s Qb kc ks T (mkF m pc Ls (.int n :: st)) := by
  have q := own_clamp (i := N) (by omega)
  obtain ⟨T', h', cA, X', e', E, A, -, O, st'⟩ := newRA X hx hZ hown hC w1 w2 eT (g := mkF m pc Ls (.int n :: st)) rfl hd rfl (by rw [hn]; exact q.2) (cap := N) (by rw [hn, q.1]; exact Nat.le_refl _) hN hc hl (ad := "[" ++ C) rfl
  refine Ends.go st' (k T' h' _ rfl X' e' E ?_)
  obtain ⟨c', A', q1, q2⟩ := Ary.new (ty := .array ty) A hn (by omega)
  have e1 : c' = Jvm.RoadKit.newA cA (.array ty) n := Option.some.inj (A'.1.symm.trans A.1)
  exact ⟨c', A', q1, q2, by rw [e1]; exact O⟩
theorem Ends.ast (X : Stand p l e R s m args below meth c T locs cells slots) (hx : p.tables.exec = Jvm.exec) (hZ : Z.Warmed39 s.vm) (eT : T.heap = h) (A : Ar2 Z h a ty C vs) (I : Exa Z h y C) (hj : j = Int32.ofNat i) (hi : i < vs.length) (hd : decode c.code pc = .ok (.aastore, 1))
    (k : ∀ T' h', Stand p l e R s m args below meth c T' (locs ++ [⟨a, i⟩]) cells slots → T'.heap = h' → Wr h h' a i (.ref y) → Ar2 Z h' a ty C (vs.set i (.ref y)) → Ends p e below s Qb kc ks T' (mkF m (pc + 1) Ls st)) : Ends p e below s Qb kc ks T (mkF m pc Ls (.ref y :: .int j :: .ref a :: st)) := by
  obtain ⟨cl, A', q, q2, O⟩ := id A
  obtain ⟨T', h', X', e', W, st'⟩ := stR X hx hZ eT A' (j := j) (own_inb q q2 hj hi) rfl (Sto.ofVA A' rfl O (Ins.self I)) (g := mkF m pc Ls (.ref y :: .int j :: .ref a :: st)) rfl rfl hd
  have hc : j.toNatClampNeg = i := by rw [hj]; exact (own_clamp (by omega)).1
  rw [hc] at X' W
  exact Ends.go st' (k T' h' X' e' W (A.set W))
theorem Ends.newAE (X : Stand p l e R s m args below meth c T locs cells slots) (hx : p.tables.exec = Jvm.exec) (hZ : Z.Warmed39 s.vm) {aty : ArrayType} (w : (Jvm.Cond.arrayClass (newarray.typeOf aty)).before a0 Z = true) (eT : T.heap = h) (hd : decode c.code pc = .ok (.newarray aty, 2)) {n : Int32} {N : Nat} (hn : n = Int32.ofNat N) (hN : N * 8 ≤ 536870912) (hc : cells + 1 ≤ R.cells) (hl : slots + N ≤ R.slots) {ad : String} (had : "[" ++ (newarray.typeOf aty).toString = ad)
    (k : ∀ T' h' b, b = h.size → Stand p l e R s m args below meth c T' locs (cells + 1) (slots + N) → T'.heap = h' → Ext h h' → Ary Z h' b (newarray.typeOf aty) (List.replicate N (defaultValue (newarray.typeOf aty))) → Exa Z h' b ad → Ends p e below s Qb kc ks T' (mkF m (pc + 2) Ls (.ref b :: st))) : Ends p e below s Qb kc ks T (mkF m pc Ls (.int n :: st)) := by
  have q := own_clamp (i := N) (by omega)
  obtain ⟨T', h', cA, X', e', E, A, E2, st'⟩ := newPE X hx hZ w eT (g := mkF m pc Ls (.int n :: st)) rfl hd rfl (by rw [hn]; exact q.2) (cap := N) (by rw [hn, q.1]; exact Nat.le_refl _) hN hc hl had
  exact Ends.go st' (k T' h' _ rfl X' e' E (Ary.new A hn (by omega)) E2)
end OwnHeap3
def own_hi (p : Int64) : Int32 := (((p.toUInt64 >>> ((32 : Int32) &&& 0x3f).toInt64.toUInt64).toInt64).toInt32)
def own_m (s : Int32) : UInt64 := if s = (0 : Int32) then FP.dconst0 else if s = (1 : Int32) then FP.dconst1 else if s = (2 : Int32) then 13830554455654793216 else if s = (3 : Int32) then 9218868437227405311 else if s = (4 : Int32) then 18442240474082181119 else if s = (5 : Int32) then 9218868437227405312 else if s = (6 : Int32) then 18442240474082181120 else 9223372036854775808
def own_in (x b : Int32) : Int32 := if x < (0 : Int32) then 0 else if x < b then 1 else 0
def own_fi (s : Int32) : Int32 := if s = (5 : Int32) then 0 else if s = (6 : Int32) then 0 else 1
def own_bi (x b : Int32) : Bool := decide (x < (0 : Int32)) || !decide (x < b)
def own_bd (d : UInt64) : Bool := decide (cmpValue (FP.dcmp d (18442240474082181119 : UInt64)) .l < (0 : Int32)) || decide ((0 : Int32) < cmpValue (FP.dcmp d (9218868437227405311 : UInt64)) .g)
def own_st (p : Bool × Bool) (s : Int32) : Int32 := if p.1 = true ∧ (0 : Int32) < s then 0 else if p.2 = true ∧ (1 : Int32) < s then 1 else s
def own_fold : List (Bool × Bool) → Int32 → Int32
  | [], s => s
  | p :: r, s => own_fold r (own_st p s)
theorem own_three {c n : Int32} (h : n = ((c &&& (3 : Int32)) % (3 : Int32))) : n = (0 : Int32) ∨ n = (1 : Int32) ∨ n = (2 : Int32) := by
  have h1 := c_mask c 3 2 (by decide) (by decide)
  have k : ((2 ^ 2 : Nat) : Int) = 4 := by decide
  rw [k] at h1
  have h2 := (c_irem (c &&& 3) 3 3 (by decide)).1 (by omega)
  rw [← h] at h2
  have h3 : n.toInt = 0 ∨ n.toInt = 1 ∨ n.toInt = 2 := by omega
  rcases h3 with q | q | q
  · exact Or.inl (Int32.toInt_inj.mp q)
  · exact Or.inr (Or.inl (Int32.toInt_inj.mp q))
  · exact Or.inr (Or.inr (Int32.toInt_inj.mp q))
theorem own_eight {c s : Int32} (h : s = (c &&& (7 : Int32))) : s = 0 ∨ s = 1 ∨ s = 2 ∨ s = 3 ∨ s = 4 ∨ s = 5 ∨ s = 6 ∨ s = 7 := by
  have h1 := c_mask c 7 3 (by decide) (by decide)
  have k : ((2 ^ 3 : Nat) : Int) = 8 := by decide
  rw [k, ← h] at h1
  have h3 : s.toInt = 0 ∨ s.toInt = 1 ∨ s.toInt = 2 ∨ s.toInt = 3 ∨ s.toInt = 4 ∨ s.toInt = 5 ∨ s.toInt = 6 ∨ s.toInt = 7 := by omega
  rcases h3 with q | q | q | q | q | q | q | q
  · exact Or.inl (Int32.toInt_inj.mp q)
  · exact Or.inr (Or.inl (Int32.toInt_inj.mp q))
  · exact Or.inr (Or.inr (Or.inl (Int32.toInt_inj.mp q)))
  · exact Or.inr (Or.inr (Or.inr (Or.inl (Int32.toInt_inj.mp q))))
  · exact Or.inr (Or.inr (Or.inr (Or.inr (Or.inl (Int32.toInt_inj.mp q)))))
  · exact Or.inr (Or.inr (Or.inr (Or.inr (Or.inr (Or.inl (Int32.toInt_inj.mp q))))))
  · exact Or.inr (Or.inr (Or.inr (Or.inr (Or.inr (Or.inr (Or.inl (Int32.toInt_inj.mp q)))))))
  · exact Or.inr (Or.inr (Or.inr (Or.inr (Or.inr (Or.inr (Or.inr (Int32.toInt_inj.mp q)))))))
theorem own_in_bi {x b : Int32} : (own_in x b = (0 : Int32) → own_bi x b = true) ∧ (¬ own_in x b = (0 : Int32) → own_bi x b = false) := by
  unfold own_in own_bi
  by_cases h1 : x < (0 : Int32)
  · simp [h1]
  · by_cases h2 : x < b
    · simp [h1, h2]
    · simp [h1, h2]
theorem own_fi_bd {s : Int32} (h : s = 0 ∨ s = 1 ∨ s = 2 ∨ s = 3 ∨ s = 4 ∨ s = 5 ∨ s = 6 ∨ s = 7) : (own_fi s = (0 : Int32) → own_bd (own_m s) = true) ∧ (¬ own_fi s = (0 : Int32) → own_bd (own_m s) = false) := by
  rcases h with rfl | rfl | rfl | rfl | rfl | rfl | rfl | rfl <;> decide +kernel
def own_nb (l : List Bool) : Int32 := if l.any id = true then 0 else 1
theorem own_nb0 {l : List Bool} (h : l.any id = true) : (0 : Int32) = own_nb l := by unfold own_nb; rw [if_pos h]
theorem own_nb1 {l : List Bool} (h : l.any id = false) : (1 : Int32) = own_nb l := by unfold own_nb; rw [h]; rfl
theorem own_nbz {l : List Bool} (h : own_nb l = (0 : Int32)) : l.any id = true := by
  unfold own_nb at h; split at h
  · assumption
  · exact absurd h (by decide)
theorem own_nbo {l : List Bool} (h : ¬ own_nb l = (0 : Int32)) : l.any id = false := by
  unfold own_nb at h; split at h
  · exact absurd rfl h
  · rename_i q; simpa using q
theorem own_f0 (l : List (Bool × Bool)) : own_fold l (0 : Int32) = (0 : Int32) := by
  induction l with
  | nil => rfl
  | cons p r ih =>
    have : own_st p (0 : Int32) = 0 := by unfold own_st; rw [if_neg (fun q => absurd q.2 (by decide)), if_neg (fun q => absurd q.2 (by decide))]
    show own_fold r (own_st p 0) = 0
    rw [this, ih]
theorem own_st1 (p : Bool × Bool) : own_st p (1 : Int32) = if p.1 = true then 0 else 1 := by
  unfold own_st
  rw [if_neg (c := p.2 = true ∧ (1 : Int32) < 1) (fun q => absurd q.2 (by decide))]
  by_cases h : p.1 = true
  · rw [if_pos ⟨h, by decide⟩, if_pos h]
  · rw [if_neg (fun q => h q.1), if_neg h]
theorem own_st2 (p : Bool × Bool) : own_st p (2 : Int32) = if p.1 = true then 0 else if p.2 = true then 1 else 2 := by
  unfold own_st
  by_cases h : p.1 = true
  · rw [if_pos ⟨h, by decide⟩, if_pos h]
  · rw [if_neg (fun q => h q.1), if_neg h]
    by_cases g : p.2 = true
    · rw [if_pos ⟨g, by decide⟩, if_pos g]
    · rw [if_neg (fun q => g q.1), if_neg g]
theorem own_e1 (l : List (Bool × Bool)) : own_fold l (1 : Int32) = if (l.map Prod.fst).any id = true then 0 else 1 := by
  induction l with
  | nil => rfl
  | cons p r ih =>
    show own_fold r (own_st p 1) = _
    rw [own_st1]
    by_cases h : p.1 = true
    · rw [if_pos h, own_f0]; simp [h]
    · rw [if_neg h, ih]; simp [h]
theorem own_e2 (l : List (Bool × Bool)) : own_fold l (2 : Int32) = if (l.map Prod.fst).any id = true then 0 else if (l.map Prod.snd).any id = true then 1 else 2 := by
  induction l with
  | nil => rfl
  | cons p r ih =>
    show own_fold r (own_st p 2) = _
    rw [own_st2]
    by_cases h : p.1 = true
    · rw [if_pos h, own_f0]; simp [h]
    · rw [if_neg h]
      by_cases g : p.2 = true
      · rw [if_pos g, own_e1]; simp [h, g]
      · rw [if_neg g, ih]; simp [h, g]
theorem own_f10 {l : List (Bool × Bool)} (h : own_nb (l.map Prod.fst) = (0 : Int32)) : own_fold l (1 : Int32) = (0 : Int32) := by rw [own_e1, if_pos (own_nbz h)]
theorem own_f11 {l : List (Bool × Bool)} (h : ¬ own_nb (l.map Prod.fst) = (0 : Int32)) : own_fold l (1 : Int32) = (1 : Int32) := by rw [own_e1, own_nbo h]; rfl
theorem own_f20 {l : List (Bool × Bool)} (h : own_nb (l.map Prod.fst) = (0 : Int32)) : own_fold l (2 : Int32) = (0 : Int32) := by rw [own_e2, if_pos (own_nbz h)]
theorem own_f21 {l : List (Bool × Bool)} (h : ¬ own_nb (l.map Prod.fst) = (0 : Int32)) (g : own_nb (l.map Prod.snd) = (0 : Int32)) : own_fold l (2 : Int32) = (1 : Int32) := by rw [own_e2, own_nbo h, if_neg (by decide), if_pos (own_nbz g)]
theorem own_f22 {l : List (Bool × Bool)} (h : ¬ own_nb (l.map Prod.fst) = (0 : Int32)) (g : ¬ own_nb (l.map Prod.snd) = (0 : Int32)) : own_fold l (2 : Int32) = (2 : Int32) := by rw [own_e2, own_nbo h, own_nbo g]; rfl
theorem own_sta {args : Array Value} {s : State} (hn : narrow_1.value args s none s [] = some true) (hw : ∀ d ∈ tables_1, d.before args s = true) : Sta s s.heap "com/example/hourline/hourline/network/EdgeValues" "NUMBERS" "I" (.int (4 : Int32)) := by
  refine Sta.start (args := args) ?_ (Or.inr ⟨hw _ (List.mem_of_getElem? (i := 10) rfl), hw _ (List.mem_of_getElem? (i := 15) rfl)⟩)
  exact eqv_i (F := Term.int 4) rfl hn
theorem pn_0 : plainName "com/example/hourline/hourline/network/EdgeValuesFirstUnfitPinLaw" = true := by first | (simp [plainName, overriddenIn]; done) | decide +kernel
theorem pn_1 : plainName "com/example/hourline/hourline/network/EdgeValues" = true := by first | (simp [plainName, overriddenIn]; done) | decide +kernel
theorem pd_0 : parseMethodDescriptor "([[I[[DI)V" = some ⟨[(.array (.array .int)), (.array (.array .double)), .int], none⟩ := by decide +kernel
theorem pd_1 : parseMethodDescriptor "(IIIDD)V" = some ⟨[.int, .int, .int, .double, .double], none⟩ := by decide +kernel
theorem pd_2 : parseMethodDescriptor "(J)I" = some ⟨[.long], some .int⟩ := by decide +kernel
theorem pd_3 : parseMethodDescriptor "(IZ)V" = some ⟨[.int, .boolean], none⟩ := by decide +kernel
theorem pd_4 : parseMethodDescriptor "(II)Z" = some ⟨[.int, .int], some .boolean⟩ := by decide +kernel
theorem pd_5 : parseMethodDescriptor "(I)Z" = some ⟨[.int], some .boolean⟩ := by decide +kernel
theorem pd_6 : parseMethodDescriptor "([I)I" = some ⟨[(.array .int)], some .int⟩ := by decide +kernel
theorem pd_7 : parseMethodDescriptor "()I" = some ⟨[], some .int⟩ := by decide +kernel
theorem pd_8 : parseMethodDescriptor "(I)D" = some ⟨[.int], some .double⟩ := by decide +kernel
theorem pd_9 : parseMethodDescriptor "(IIIIDD)I" = some ⟨[.int, .int, .int, .int, .double, .double], some .int⟩ := by decide +kernel
theorem pd_10 : parseMethodDescriptor "(IDD)V" = some ⟨[.int, .double, .double], none⟩ := by decide +kernel
theorem d1_0 : decode method_5_code 0 = .ok (.lload_n 0, 1) := by decide +kernel
theorem d1_1 : decode method_5_code 1 = .ok (.l2i, 1) := by decide +kernel
theorem d1_2 : decode method_5_code 2 = .ok (.ireturn, 1) := by decide +kernel
theorem d2_0 : decode method_6_code 0 = .ok (.lload_n 0, 1) := by decide +kernel
theorem d2_1 : decode method_6_code 1 = .ok (.bipush 32, 2) := by decide +kernel
theorem d2_3 : decode method_6_code 3 = .ok (.lushr, 1) := by decide +kernel
theorem d2_4 : decode method_6_code 4 = .ok (.l2i, 1) := by decide +kernel
theorem d2_5 : decode method_6_code 5 = .ok (.ireturn, 1) := by decide +kernel
theorem d3_0 : decode prog_101_method_2_code 0 = .ok (.aload_n 0, 1) := by decide +kernel
theorem d3_1 : decode prog_101_method_2_code 1 = .ok (.getstatic 7, 3) := by decide +kernel
theorem d3_4 : decode prog_101_method_2_code 4 = .ok (.anewarray 11, 3) := by decide +kernel
theorem d3_7 : decode prog_101_method_2_code 7 = .ok (.iload_n 2, 1) := by decide +kernel
theorem d3_8 : decode prog_101_method_2_code 8 = .ok (.ifCond .eq 7, 3) := by decide +kernel
theorem d3_11 : decode prog_101_method_2_code 11 = .ok (.iconst 4, 1) := by decide +kernel
theorem d3_12 : decode prog_101_method_2_code 12 = .ok (.goto 4, 3) := by decide +kernel
theorem d3_15 : decode prog_101_method_2_code 15 = .ok (.iconst 2, 1) := by decide +kernel
theorem d3_16 : decode prog_101_method_2_code 16 = .ok (.anewarray 13, 3) := by decide +kernel
theorem d3_19 : decode prog_101_method_2_code 19 = .ok (.iconst 0, 1) := by decide +kernel
theorem d3_20 : decode prog_101_method_2_code 20 = .ok (.invokespecial 15, 3) := by decide +kernel
theorem d3_23 : decode prog_101_method_2_code 23 = .ok (.iconst 0, 1) := by decide +kernel
theorem d3_24 : decode prog_101_method_2_code 24 = .ok (.istore_n 3, 1) := by decide +kernel
theorem d3_25 : decode prog_101_method_2_code 25 = .ok (.iload_n 3, 1) := by decide +kernel
theorem d3_26 : decode prog_101_method_2_code 26 = .ok (.getstatic 7, 3) := by decide +kernel
theorem d3_29 : decode prog_101_method_2_code 29 = .ok (.if_icmp .ge 18, 3) := by decide +kernel
theorem d3_32 : decode prog_101_method_2_code 32 = .ok (.aload_n 0, 1) := by decide +kernel
theorem d3_33 : decode prog_101_method_2_code 33 = .ok (.getfield 18, 3) := by decide +kernel
theorem d3_36 : decode prog_101_method_2_code 36 = .ok (.iload_n 3, 1) := by decide +kernel
theorem d3_37 : decode prog_101_method_2_code 37 = .ok (.iload_n 1, 1) := by decide +kernel
theorem d3_38 : decode prog_101_method_2_code 38 = .ok (.newarray .int, 2) := by decide +kernel
theorem d3_40 : decode prog_101_method_2_code 40 = .ok (.aastore, 1) := by decide +kernel
theorem d3_41 : decode prog_101_method_2_code 41 = .ok (.iinc 3 1, 3) := by decide +kernel
theorem d3_44 : decode prog_101_method_2_code 44 = .ok (.goto (-19), 3) := by decide +kernel
theorem d3_47 : decode prog_101_method_2_code 47 = .ok (.iconst 0, 1) := by decide +kernel
theorem d3_48 : decode prog_101_method_2_code 48 = .ok (.istore_n 3, 1) := by decide +kernel
theorem d3_49 : decode prog_101_method_2_code 49 = .ok (.iload_n 3, 1) := by decide +kernel
theorem d3_50 : decode prog_101_method_2_code 50 = .ok (.aload_n 0, 1) := by decide +kernel
theorem d3_51 : decode prog_101_method_2_code 51 = .ok (.getfield 22, 3) := by decide +kernel
theorem d3_54 : decode prog_101_method_2_code 54 = .ok (.arraylength, 1) := by decide +kernel
theorem d3_55 : decode prog_101_method_2_code 55 = .ok (.if_icmp .ge 18, 3) := by decide +kernel
theorem d3_58 : decode prog_101_method_2_code 58 = .ok (.aload_n 0, 1) := by decide +kernel
theorem d3_59 : decode prog_101_method_2_code 59 = .ok (.getfield 22, 3) := by decide +kernel
theorem d3_62 : decode prog_101_method_2_code 62 = .ok (.iload_n 3, 1) := by decide +kernel
theorem d3_63 : decode prog_101_method_2_code 63 = .ok (.iload_n 1, 1) := by decide +kernel
theorem d3_64 : decode prog_101_method_2_code 64 = .ok (.newarray .double, 2) := by decide +kernel
theorem d3_66 : decode prog_101_method_2_code 66 = .ok (.aastore, 1) := by decide +kernel
theorem d3_67 : decode prog_101_method_2_code 67 = .ok (.iinc 3 1, 3) := by decide +kernel
theorem d3_70 : decode prog_101_method_2_code 70 = .ok (.goto (-21), 3) := by decide +kernel
theorem d3_73 : decode prog_101_method_2_code 73 = .ok (.return_, 1) := by decide +kernel
theorem d4_0 : decode prog_101_method_3_code 0 = .ok (.aload_n 0, 1) := by decide +kernel
theorem d4_1 : decode prog_101_method_3_code 1 = .ok (.invokespecial 26, 3) := by decide +kernel
theorem d4_4 : decode prog_101_method_3_code 4 = .ok (.aload_n 0, 1) := by decide +kernel
theorem d4_5 : decode prog_101_method_3_code 5 = .ok (.aload_n 1, 1) := by decide +kernel
theorem d4_6 : decode prog_101_method_3_code 6 = .ok (.putfield 18, 3) := by decide +kernel
theorem d4_9 : decode prog_101_method_3_code 9 = .ok (.aload_n 0, 1) := by decide +kernel
theorem d4_10 : decode prog_101_method_3_code 10 = .ok (.aload_n 2, 1) := by decide +kernel
theorem d4_11 : decode prog_101_method_3_code 11 = .ok (.putfield 22, 3) := by decide +kernel
theorem d4_14 : decode prog_101_method_3_code 14 = .ok (.aload_n 0, 1) := by decide +kernel
theorem d4_15 : decode prog_101_method_3_code 15 = .ok (.iload_n 3, 1) := by decide +kernel
theorem d4_16 : decode prog_101_method_3_code 16 = .ok (.putfield 31, 3) := by decide +kernel
theorem d4_19 : decode prog_101_method_3_code 19 = .ok (.return_, 1) := by decide +kernel
theorem d6_0 : decode method_2_code 0 = .ok (.iload_n 0, 1) := by decide +kernel
theorem d6_1 : decode method_2_code 1 = .ok (.ifCond .ne 5, 3) := by decide +kernel
theorem d6_4 : decode method_2_code 4 = .ok (.dconst 0, 1) := by decide +kernel
theorem d6_5 : decode method_2_code 5 = .ok (.dreturn, 1) := by decide +kernel
theorem d6_6 : decode method_2_code 6 = .ok (.iload_n 0, 1) := by decide +kernel
theorem d6_7 : decode method_2_code 7 = .ok (.iconst 1, 1) := by decide +kernel
theorem d6_8 : decode method_2_code 8 = .ok (.if_icmp .ne 5, 3) := by decide +kernel
theorem d6_11 : decode method_2_code 11 = .ok (.dconst 1, 1) := by decide +kernel
theorem d6_12 : decode method_2_code 12 = .ok (.dreturn, 1) := by decide +kernel
theorem d6_13 : decode method_2_code 13 = .ok (.iload_n 0, 1) := by decide +kernel
theorem d6_14 : decode method_2_code 14 = .ok (.iconst 2, 1) := by decide +kernel
theorem d6_15 : decode method_2_code 15 = .ok (.if_icmp .ne 7, 3) := by decide +kernel
theorem d6_18 : decode method_2_code 18 = .ok (.ldc2_w 7, 3) := by decide +kernel
theorem d6_21 : decode method_2_code 21 = .ok (.dreturn, 1) := by decide +kernel
theorem d6_22 : decode method_2_code 22 = .ok (.iload_n 0, 1) := by decide +kernel
theorem d6_23 : decode method_2_code 23 = .ok (.iconst 3, 1) := by decide +kernel
theorem d6_24 : decode method_2_code 24 = .ok (.if_icmp .ne 7, 3) := by decide +kernel
theorem d6_27 : decode method_2_code 27 = .ok (.ldc2_w 9, 3) := by decide +kernel
theorem d6_30 : decode method_2_code 30 = .ok (.dreturn, 1) := by decide +kernel
theorem d6_31 : decode method_2_code 31 = .ok (.iload_n 0, 1) := by decide +kernel
theorem d6_32 : decode method_2_code 32 = .ok (.iconst 4, 1) := by decide +kernel
theorem d6_33 : decode method_2_code 33 = .ok (.if_icmp .ne 7, 3) := by decide +kernel
theorem d6_36 : decode method_2_code 36 = .ok (.ldc2_w 11, 3) := by decide +kernel
theorem d6_39 : decode method_2_code 39 = .ok (.dreturn, 1) := by decide +kernel
theorem d6_40 : decode method_2_code 40 = .ok (.iload_n 0, 1) := by decide +kernel
theorem d6_41 : decode method_2_code 41 = .ok (.iconst 5, 1) := by decide +kernel
theorem d6_42 : decode method_2_code 42 = .ok (.if_icmp .ne 7, 3) := by decide +kernel
theorem d6_45 : decode method_2_code 45 = .ok (.ldc2_w 13, 3) := by decide +kernel
theorem d6_48 : decode method_2_code 48 = .ok (.dreturn, 1) := by decide +kernel
theorem d6_49 : decode method_2_code 49 = .ok (.iload_n 0, 1) := by decide +kernel
theorem d6_50 : decode method_2_code 50 = .ok (.bipush 6, 2) := by decide +kernel
theorem d6_52 : decode method_2_code 52 = .ok (.if_icmp .ne 7, 3) := by decide +kernel
theorem d6_55 : decode method_2_code 55 = .ok (.ldc2_w 15, 3) := by decide +kernel
theorem d6_58 : decode method_2_code 58 = .ok (.dreturn, 1) := by decide +kernel
theorem d6_59 : decode method_2_code 59 = .ok (.ldc2_w 17, 3) := by decide +kernel
theorem d6_62 : decode method_2_code 62 = .ok (.dreturn, 1) := by decide +kernel
theorem d7_0 : decode prog_101_method_14_code 0 = .ok (.aload_n 0, 1) := by decide +kernel
theorem d7_1 : decode prog_101_method_14_code 1 = .ok (.getfield 18, 3) := by decide +kernel
theorem d7_4 : decode prog_101_method_14_code 4 = .ok (.iconst 2, 1) := by decide +kernel
theorem d7_5 : decode prog_101_method_14_code 5 = .ok (.aaload, 1) := by decide +kernel
theorem d7_6 : decode prog_101_method_14_code 6 = .ok (.aload_n 0, 1) := by decide +kernel
theorem d7_7 : decode prog_101_method_14_code 7 = .ok (.getfield 31, 3) := by decide +kernel
theorem d7_10 : decode prog_101_method_14_code 10 = .ok (.iload_n 3, 1) := by decide +kernel
theorem d7_11 : decode prog_101_method_14_code 11 = .ok (.iastore, 1) := by decide +kernel
theorem d7_12 : decode prog_101_method_14_code 12 = .ok (.aload_n 0, 1) := by decide +kernel
theorem d7_13 : decode prog_101_method_14_code 13 = .ok (.getfield 18, 3) := by decide +kernel
theorem d7_16 : decode prog_101_method_14_code 16 = .ok (.iconst 3, 1) := by decide +kernel
theorem d7_17 : decode prog_101_method_14_code 17 = .ok (.aaload, 1) := by decide +kernel
theorem d7_18 : decode prog_101_method_14_code 18 = .ok (.aload_n 0, 1) := by decide +kernel
theorem d7_19 : decode prog_101_method_14_code 19 = .ok (.getfield 31, 3) := by decide +kernel
theorem d7_22 : decode prog_101_method_14_code 22 = .ok (.iload 4, 2) := by decide +kernel
theorem d7_24 : decode prog_101_method_14_code 24 = .ok (.iastore, 1) := by decide +kernel
theorem d7_25 : decode prog_101_method_14_code 25 = .ok (.aload_n 0, 1) := by decide +kernel
theorem d7_26 : decode prog_101_method_14_code 26 = .ok (.aload_n 0, 1) := by decide +kernel
theorem d7_27 : decode prog_101_method_14_code 27 = .ok (.getfield 31, 3) := by decide +kernel
theorem d7_30 : decode prog_101_method_14_code 30 = .ok (.iload_n 1, 1) := by decide +kernel
theorem d7_31 : decode prog_101_method_14_code 31 = .ok (.iload_n 2, 1) := by decide +kernel
theorem d7_32 : decode prog_101_method_14_code 32 = .ok (.dload 5, 2) := by decide +kernel
theorem d7_34 : decode prog_101_method_14_code 34 = .ok (.dload 7, 2) := by decide +kernel
theorem d7_36 : decode prog_101_method_14_code 36 = .ok (.invokevirtual 38, 3) := by decide +kernel
theorem d7_39 : decode prog_101_method_14_code 39 = .ok (.aload_n 0, 1) := by decide +kernel
theorem d7_40 : decode prog_101_method_14_code 40 = .ok (.dup, 1) := by decide +kernel
theorem d7_41 : decode prog_101_method_14_code 41 = .ok (.getfield 31, 3) := by decide +kernel
theorem d7_44 : decode prog_101_method_14_code 44 = .ok (.dup_x1, 1) := by decide +kernel
theorem d7_45 : decode prog_101_method_14_code 45 = .ok (.iconst 1, 1) := by decide +kernel
theorem d7_46 : decode prog_101_method_14_code 46 = .ok (.iadd, 1) := by decide +kernel
theorem d7_47 : decode prog_101_method_14_code 47 = .ok (.putfield 31, 3) := by decide +kernel
theorem d7_50 : decode prog_101_method_14_code 50 = .ok (.ireturn, 1) := by decide +kernel
theorem d8_0 : decode prog_101_method_16_code 0 = .ok (.aload_n 0, 1) := by decide +kernel
theorem d8_1 : decode prog_101_method_16_code 1 = .ok (.getfield 18, 3) := by decide +kernel
theorem d8_4 : decode prog_101_method_16_code 4 = .ok (.iconst 0, 1) := by decide +kernel
theorem d8_5 : decode prog_101_method_16_code 5 = .ok (.aaload, 1) := by decide +kernel
theorem d8_6 : decode prog_101_method_16_code 6 = .ok (.iload_n 1, 1) := by decide +kernel
theorem d8_7 : decode prog_101_method_16_code 7 = .ok (.iload_n 2, 1) := by decide +kernel
theorem d8_8 : decode prog_101_method_16_code 8 = .ok (.iastore, 1) := by decide +kernel
theorem d8_9 : decode prog_101_method_16_code 9 = .ok (.aload_n 0, 1) := by decide +kernel
theorem d8_10 : decode prog_101_method_16_code 10 = .ok (.getfield 18, 3) := by decide +kernel
theorem d8_13 : decode prog_101_method_16_code 13 = .ok (.iconst 1, 1) := by decide +kernel
theorem d8_14 : decode prog_101_method_16_code 14 = .ok (.aaload, 1) := by decide +kernel
theorem d8_15 : decode prog_101_method_16_code 15 = .ok (.iload_n 1, 1) := by decide +kernel
theorem d8_16 : decode prog_101_method_16_code 16 = .ok (.iload_n 3, 1) := by decide +kernel
theorem d8_17 : decode prog_101_method_16_code 17 = .ok (.iastore, 1) := by decide +kernel
theorem d8_18 : decode prog_101_method_16_code 18 = .ok (.aload_n 0, 1) := by decide +kernel
theorem d8_19 : decode prog_101_method_16_code 19 = .ok (.getfield 22, 3) := by decide +kernel
theorem d8_22 : decode prog_101_method_16_code 22 = .ok (.iconst 0, 1) := by decide +kernel
theorem d8_23 : decode prog_101_method_16_code 23 = .ok (.aaload, 1) := by decide +kernel
theorem d8_24 : decode prog_101_method_16_code 24 = .ok (.iload_n 1, 1) := by decide +kernel
theorem d8_25 : decode prog_101_method_16_code 25 = .ok (.dload 4, 2) := by decide +kernel
theorem d8_27 : decode prog_101_method_16_code 27 = .ok (.dastore, 1) := by decide +kernel
theorem d8_28 : decode prog_101_method_16_code 28 = .ok (.aload_n 0, 1) := by decide +kernel
theorem d8_29 : decode prog_101_method_16_code 29 = .ok (.getfield 22, 3) := by decide +kernel
theorem d8_32 : decode prog_101_method_16_code 32 = .ok (.iconst 1, 1) := by decide +kernel
theorem d8_33 : decode prog_101_method_16_code 33 = .ok (.aaload, 1) := by decide +kernel
theorem d8_34 : decode prog_101_method_16_code 34 = .ok (.iload_n 1, 1) := by decide +kernel
theorem d8_35 : decode prog_101_method_16_code 35 = .ok (.dload 6, 2) := by decide +kernel
theorem d8_37 : decode prog_101_method_16_code 37 = .ok (.dastore, 1) := by decide +kernel
theorem d8_38 : decode prog_101_method_16_code 38 = .ok (.return_, 1) := by decide +kernel
theorem d9_0 : decode method_4_code 0 = .ok (.iload_n 0, 1) := by decide +kernel
theorem d9_1 : decode method_4_code 1 = .ok (.ifCond .lt 12, 3) := by decide +kernel
theorem d9_4 : decode method_4_code 4 = .ok (.iload_n 0, 1) := by decide +kernel
theorem d9_5 : decode method_4_code 5 = .ok (.iload_n 1, 1) := by decide +kernel
theorem d9_6 : decode method_4_code 6 = .ok (.if_icmp .ge 7, 3) := by decide +kernel
theorem d9_9 : decode method_4_code 9 = .ok (.iconst 1, 1) := by decide +kernel
theorem d9_10 : decode method_4_code 10 = .ok (.goto 4, 3) := by decide +kernel
theorem d9_13 : decode method_4_code 13 = .ok (.iconst 0, 1) := by decide +kernel
theorem d9_14 : decode method_4_code 14 = .ok (.ireturn, 1) := by decide +kernel
theorem d10_0 : decode prog_101_method_33_code 0 = .ok (.aload_n 0, 1) := by decide +kernel
theorem d10_1 : decode prog_101_method_33_code 1 = .ok (.getfield 31, 3) := by decide +kernel
theorem d10_4 : decode prog_101_method_33_code 4 = .ok (.istore_n 2, 1) := by decide +kernel
theorem d10_5 : decode prog_101_method_33_code 5 = .ok (.iconst 0, 1) := by decide +kernel
theorem d10_6 : decode prog_101_method_33_code 6 = .ok (.istore_n 3, 1) := by decide +kernel
theorem d10_7 : decode prog_101_method_33_code 7 = .ok (.iload_n 3, 1) := by decide +kernel
theorem d10_8 : decode prog_101_method_33_code 8 = .ok (.getstatic 7, 3) := by decide +kernel
theorem d10_11 : decode prog_101_method_33_code 11 = .ok (.if_icmp .ge 58, 3) := by decide +kernel
theorem d10_14 : decode prog_101_method_33_code 14 = .ok (.aload_n 0, 1) := by decide +kernel
theorem d10_15 : decode prog_101_method_33_code 15 = .ok (.getfield 18, 3) := by decide +kernel
theorem d10_18 : decode prog_101_method_33_code 18 = .ok (.iload_n 3, 1) := by decide +kernel
theorem d10_19 : decode prog_101_method_33_code 19 = .ok (.aaload, 1) := by decide +kernel
theorem d10_20 : decode prog_101_method_33_code 20 = .ok (.astore 4, 2) := by decide +kernel
theorem d10_22 : decode prog_101_method_33_code 22 = .ok (.aload_n 1, 1) := by decide +kernel
theorem d10_23 : decode prog_101_method_33_code 23 = .ok (.iload_n 3, 1) := by decide +kernel
theorem d10_24 : decode prog_101_method_33_code 24 = .ok (.iaload, 1) := by decide +kernel
theorem d10_25 : decode prog_101_method_33_code 25 = .ok (.istore 5, 2) := by decide +kernel
theorem d10_27 : decode prog_101_method_33_code 27 = .ok (.iconst 0, 1) := by decide +kernel
theorem d10_28 : decode prog_101_method_33_code 28 = .ok (.istore 6, 2) := by decide +kernel
theorem d10_30 : decode prog_101_method_33_code 30 = .ok (.iload 6, 2) := by decide +kernel
theorem d10_32 : decode prog_101_method_33_code 32 = .ok (.iload_n 2, 1) := by decide +kernel
theorem d10_33 : decode prog_101_method_33_code 33 = .ok (.if_icmp .ge 30, 3) := by decide +kernel
theorem d10_36 : decode prog_101_method_33_code 36 = .ok (.aload 4, 2) := by decide +kernel
theorem d10_38 : decode prog_101_method_33_code 38 = .ok (.iload 6, 2) := by decide +kernel
theorem d10_40 : decode prog_101_method_33_code 40 = .ok (.iaload, 1) := by decide +kernel
theorem d10_41 : decode prog_101_method_33_code 41 = .ok (.ifCond .lt 13, 3) := by decide +kernel
theorem d10_44 : decode prog_101_method_33_code 44 = .ok (.aload 4, 2) := by decide +kernel
theorem d10_46 : decode prog_101_method_33_code 46 = .ok (.iload 6, 2) := by decide +kernel
theorem d10_48 : decode prog_101_method_33_code 48 = .ok (.iaload, 1) := by decide +kernel
theorem d10_49 : decode prog_101_method_33_code 49 = .ok (.iload 5, 2) := by decide +kernel
theorem d10_51 : decode prog_101_method_33_code 51 = .ok (.if_icmp .lt 6, 3) := by decide +kernel
theorem d10_54 : decode prog_101_method_33_code 54 = .ok (.iload 6, 2) := by decide +kernel
theorem d10_56 : decode prog_101_method_33_code 56 = .ok (.istore_n 2, 1) := by decide +kernel
theorem d10_57 : decode prog_101_method_33_code 57 = .ok (.iinc 6 1, 3) := by decide +kernel
theorem d10_60 : decode prog_101_method_33_code 60 = .ok (.goto (-30), 3) := by decide +kernel
theorem d10_63 : decode prog_101_method_33_code 63 = .ok (.iinc 3 1, 3) := by decide +kernel
theorem d10_66 : decode prog_101_method_33_code 66 = .ok (.goto (-59), 3) := by decide +kernel
theorem d10_69 : decode prog_101_method_33_code 69 = .ok (.aload_n 0, 1) := by decide +kernel
theorem d10_70 : decode prog_101_method_33_code 70 = .ok (.getfield 22, 3) := by decide +kernel
theorem d10_73 : decode prog_101_method_33_code 73 = .ok (.astore_n 3, 1) := by decide +kernel
theorem d10_74 : decode prog_101_method_33_code 74 = .ok (.aload_n 3, 1) := by decide +kernel
theorem d10_75 : decode prog_101_method_33_code 75 = .ok (.arraylength, 1) := by decide +kernel
theorem d10_76 : decode prog_101_method_33_code 76 = .ok (.istore 4, 2) := by decide +kernel
theorem d10_78 : decode prog_101_method_33_code 78 = .ok (.iconst 0, 1) := by decide +kernel
theorem d10_79 : decode prog_101_method_33_code 79 = .ok (.istore 5, 2) := by decide +kernel
theorem d10_81 : decode prog_101_method_33_code 81 = .ok (.iload 5, 2) := by decide +kernel
theorem d10_83 : decode prog_101_method_33_code 83 = .ok (.iload 4, 2) := by decide +kernel
theorem d10_85 : decode prog_101_method_33_code 85 = .ok (.if_icmp .ge 57, 3) := by decide +kernel
theorem d10_88 : decode prog_101_method_33_code 88 = .ok (.aload_n 3, 1) := by decide +kernel
theorem d10_89 : decode prog_101_method_33_code 89 = .ok (.iload 5, 2) := by decide +kernel
theorem d10_91 : decode prog_101_method_33_code 91 = .ok (.aaload, 1) := by decide +kernel
theorem d10_92 : decode prog_101_method_33_code 92 = .ok (.astore 6, 2) := by decide +kernel
theorem d10_94 : decode prog_101_method_33_code 94 = .ok (.iconst 0, 1) := by decide +kernel
theorem d10_95 : decode prog_101_method_33_code 95 = .ok (.istore 7, 2) := by decide +kernel
theorem d10_97 : decode prog_101_method_33_code 97 = .ok (.iload 7, 2) := by decide +kernel
theorem d10_99 : decode prog_101_method_33_code 99 = .ok (.iload_n 2, 1) := by decide +kernel
theorem d10_100 : decode prog_101_method_33_code 100 = .ok (.if_icmp .ge 36, 3) := by decide +kernel
theorem d10_103 : decode prog_101_method_33_code 103 = .ok (.aload 6, 2) := by decide +kernel
theorem d10_105 : decode prog_101_method_33_code 105 = .ok (.iload 7, 2) := by decide +kernel
theorem d10_107 : decode prog_101_method_33_code 107 = .ok (.daload, 1) := by decide +kernel
theorem d10_108 : decode prog_101_method_33_code 108 = .ok (.ldc2_w 79, 3) := by decide +kernel
theorem d10_111 : decode prog_101_method_33_code 111 = .ok (.dcmp .l, 1) := by decide +kernel
theorem d10_112 : decode prog_101_method_33_code 112 = .ok (.ifCond .lt 15, 3) := by decide +kernel
theorem d10_115 : decode prog_101_method_33_code 115 = .ok (.aload 6, 2) := by decide +kernel
theorem d10_117 : decode prog_101_method_33_code 117 = .ok (.iload 7, 2) := by decide +kernel
theorem d10_119 : decode prog_101_method_33_code 119 = .ok (.daload, 1) := by decide +kernel
theorem d10_120 : decode prog_101_method_33_code 120 = .ok (.ldc2_w 81, 3) := by decide +kernel
theorem d10_123 : decode prog_101_method_33_code 123 = .ok (.dcmp .g, 1) := by decide +kernel
theorem d10_124 : decode prog_101_method_33_code 124 = .ok (.ifCond .le 6, 3) := by decide +kernel
theorem d10_127 : decode prog_101_method_33_code 127 = .ok (.iload 7, 2) := by decide +kernel
theorem d10_129 : decode prog_101_method_33_code 129 = .ok (.istore_n 2, 1) := by decide +kernel
theorem d10_130 : decode prog_101_method_33_code 130 = .ok (.iinc 7 1, 3) := by decide +kernel
theorem d10_133 : decode prog_101_method_33_code 133 = .ok (.goto (-36), 3) := by decide +kernel
theorem d10_136 : decode prog_101_method_33_code 136 = .ok (.iinc 5 1, 3) := by decide +kernel
theorem d10_139 : decode prog_101_method_33_code 139 = .ok (.goto (-58), 3) := by decide +kernel
theorem d10_142 : decode prog_101_method_33_code 142 = .ok (.iload_n 2, 1) := by decide +kernel
theorem d10_143 : decode prog_101_method_33_code 143 = .ok (.ireturn, 1) := by decide +kernel
theorem d11_0 : decode prog_101_method_4_code 0 = .ok (.aload_n 0, 1) := by decide +kernel
theorem d11_1 : decode prog_101_method_4_code 1 = .ok (.getfield 31, 3) := by decide +kernel
theorem d11_4 : decode prog_101_method_4_code 4 = .ok (.ireturn, 1) := by decide +kernel
theorem d12_0 : decode prog_101_method_17_code 0 = .ok (.aload_n 0, 1) := by decide +kernel
theorem d12_1 : decode prog_101_method_17_code 1 = .ok (.getfield 22, 3) := by decide +kernel
theorem d12_4 : decode prog_101_method_17_code 4 = .ok (.iconst 2, 1) := by decide +kernel
theorem d12_5 : decode prog_101_method_17_code 5 = .ok (.aaload, 1) := by decide +kernel
theorem d12_6 : decode prog_101_method_17_code 6 = .ok (.iload_n 1, 1) := by decide +kernel
theorem d12_7 : decode prog_101_method_17_code 7 = .ok (.dload_n 2, 1) := by decide +kernel
theorem d12_8 : decode prog_101_method_17_code 8 = .ok (.dastore, 1) := by decide +kernel
theorem d12_9 : decode prog_101_method_17_code 9 = .ok (.aload_n 0, 1) := by decide +kernel
theorem d12_10 : decode prog_101_method_17_code 10 = .ok (.getfield 22, 3) := by decide +kernel
theorem d12_13 : decode prog_101_method_17_code 13 = .ok (.iconst 3, 1) := by decide +kernel
theorem d12_14 : decode prog_101_method_17_code 14 = .ok (.aaload, 1) := by decide +kernel
theorem d12_15 : decode prog_101_method_17_code 15 = .ok (.iload_n 1, 1) := by decide +kernel
theorem d12_16 : decode prog_101_method_17_code 16 = .ok (.dload 4, 2) := by decide +kernel
theorem d12_18 : decode prog_101_method_17_code 18 = .ok (.dastore, 1) := by decide +kernel
theorem d12_19 : decode prog_101_method_17_code 19 = .ok (.return_, 1) := by decide +kernel
theorem d13_0 : decode method_3_code 0 = .ok (.iload_n 0, 1) := by decide +kernel
theorem d13_1 : decode method_3_code 1 = .ok (.iconst 5, 1) := by decide +kernel
theorem d13_2 : decode method_3_code 2 = .ok (.if_icmp .eq 13, 3) := by decide +kernel
theorem d13_5 : decode method_3_code 5 = .ok (.iload_n 0, 1) := by decide +kernel
theorem d13_6 : decode method_3_code 6 = .ok (.bipush 6, 2) := by decide +kernel
theorem d13_8 : decode method_3_code 8 = .ok (.if_icmp .eq 7, 3) := by decide +kernel
theorem d13_11 : decode method_3_code 11 = .ok (.iconst 1, 1) := by decide +kernel
theorem d13_12 : decode method_3_code 12 = .ok (.goto 4, 3) := by decide +kernel
theorem d13_15 : decode method_3_code 15 = .ok (.iconst 0, 1) := by decide +kernel
theorem d13_16 : decode method_3_code 16 = .ok (.ireturn, 1) := by decide +kernel
theorem ef_1 (m : MethodId) (x0 : Int64) : entryFrame m #[(.long x0)] 2 = mkF m 0 #[.val (.long x0), .second] [] := by first | (simp [entryFrame, mkF, argsToLocals, Value.category]; done) | rfl
set_option maxRecDepth 65536 in
set_option maxHeartbeats 40000000 in
theorem rm1 (l : Launch) (Z : State) (a0 : Array Value) (hw : ∀ d ∈ tables_1, d.before a0 Z = true) (j0 : Int64) (h0 : Heap) :
    Con l (⟨"com/example/hourline/hourline/network/EdgeValuesFirstUnfitPinLaw", "lo", "(J)I"⟩ : MethodName) method_5_code 2 (some .int) [] ({ frames := 0, cells := 0, slots := 0, locals := 0 } : Room) #[(.long j0)] Z h0 (fun v h L => v = some (.int (j0.toInt32)) ∧ h = h0 ∧ L = []) := by
  refine Con.of (plainFor_of_name pn_0) ?_
  intro p e s m below meth c s₁ hx hZ hby hml hown hnm hret hlk X0 e0
  refine Ends.cast (ef_1 m j0) ?_
  show Ends p e below s _ _ _ s₁ (mkF m 0 #[.val (.long j0), .second] [])
  refine E.lloadN (q := 1) X0 hx (hb hby d1_0) rfl ?_
  refine E.l2i (q := 2) X0 hx (hb hby d1_1) ?_
  exact Ends.retI X0 hx hlk hret (hb hby d1_2) (by decide) (by decide) ⟨rfl, e0, rfl⟩
theorem ef_2 (m : MethodId) (x0 : Int64) : entryFrame m #[(.long x0)] 2 = mkF m 0 #[.val (.long x0), .second] [] := by first | (simp [entryFrame, mkF, argsToLocals, Value.category]; done) | rfl
set_option maxRecDepth 65536 in
set_option maxHeartbeats 40000000 in
theorem rm2 (l : Launch) (Z : State) (a0 : Array Value) (hw : ∀ d ∈ tables_1, d.before a0 Z = true) (j0 : Int64) (h0 : Heap) :
    Con l (⟨"com/example/hourline/hourline/network/EdgeValuesFirstUnfitPinLaw", "hi", "(J)I"⟩ : MethodName) method_6_code 2 (some .int) [] ({ frames := 0, cells := 0, slots := 0, locals := 0 } : Room) #[(.long j0)] Z h0 (fun v h L => v = some (.int (own_hi j0)) ∧ h = h0 ∧ L = []) := by
  refine Con.of (plainFor_of_name pn_0) ?_
  intro p e s m below meth c s₁ hx hZ hby hml hown hnm hret hlk X0 e0
  refine Ends.cast (ef_2 m j0) ?_
  show Ends p e below s _ _ _ s₁ (mkF m 0 #[.val (.long j0), .second] [])
  refine E.lloadN (q := 1) X0 hx (hb hby d2_0) rfl ?_
  refine E.bipush (q := 3) (v := (32 : Int32)) X0 hx (hb hby d2_1) rfl ?_
  refine E.lushr (q := 4) X0 hx (hb hby d2_3) ?_
  refine E.l2i (q := 5) X0 hx (hb hby d2_4) ?_
  exact Ends.retI X0 hx hlk hret (hb hby d2_5) (by decide) (by decide) ⟨rfl, e0, rfl⟩
theorem ef_6 (m : MethodId) (x0 : Int32) : entryFrame m #[(.int x0)] 1 = mkF m 0 #[.val (.int x0)] [] := by first | (simp [entryFrame, mkF, argsToLocals, Value.category]; done) | rfl
set_option maxRecDepth 65536 in
set_option maxHeartbeats 40000000 in
theorem rm6 (l : Launch) (Z : State) (a0 : Array Value) (hw : ∀ d ∈ tables_1, d.before a0 Z = true) (xs : Int32) (h0 : Heap) :
    Con l (⟨"com/example/hourline/hourline/network/EdgeValuesFirstUnfitPinLaw", "m", "(I)D"⟩ : MethodName) method_2_code 1 (some .double) [] ({ frames := 0, cells := 0, slots := 0, locals := 0 } : Room) #[(.int xs)] Z h0 (fun v h L => v = some (.double (own_m xs)) ∧ h = h0 ∧ L = []) := by
  refine Con.of (plainFor_of_name pn_0) ?_
  intro p e s m below meth c s₁ hx hZ hby hml hown hnm hret hlk X0 e0
  refine Ends.cast (ef_6 m xs) ?_
  show Ends p e below s _ _ _ s₁ (mkF m 0 #[.val (.int xs)] [])
  refine E.iloadN (q := 1) X0 hx (hb hby d6_0) rfl ?_
  by_cases hc1_0 : xs = (0 : Int32)
  · refine E.ifN (q := 4) X0 hx (hb hby d6_1) (XT.i0_ne_f hc1_0) ?_
    refine E.dconst0 (q := 5) X0 hx (hb hby d6_4) rfl ?_
    exact Ends.retD X0 hx hlk hret (hb hby d6_5) (by decide) (by decide) ⟨by unfold own_m; rw [if_pos hc1_0], e0, rfl⟩
  · refine E.ifY (q := 6) X0 hx (hb hby d6_1) (XT.i0_ne_t hc1_0) ?_
    refine E.iloadN (q := 7) X0 hx (hb hby d6_6) rfl ?_
    refine E.iconst (q := 8) (v := (1 : Int32)) X0 hx (hb hby d6_7) rfl ?_
    by_cases hc8_1 : xs = (1 : Int32)
    · refine E.icmpN (q := 11) X0 hx (hb hby d6_8) (XT.ii_ne_f hc8_1) ?_
      refine E.dconst1 (q := 12) X0 hx (hb hby d6_11) rfl ?_
      exact Ends.retD X0 hx hlk hret (hb hby d6_12) (by decide) (by decide) ⟨by unfold own_m; rw [if_neg hc1_0, if_pos hc8_1], e0, rfl⟩
    · refine E.icmpY (q := 13) X0 hx (hb hby d6_8) (XT.ii_ne_t hc8_1) ?_
      refine E.iloadN (q := 14) X0 hx (hb hby d6_13) rfl ?_
      refine E.iconst (q := 15) (v := (2 : Int32)) X0 hx (hb hby d6_14) rfl ?_
      by_cases hc15_2 : xs = (2 : Int32)
      · refine E.icmpN (q := 18) X0 hx (hb hby d6_15) (XT.ii_ne_f hc15_2) ?_
        refine E.ldc2D (q := 21) X0 hx hZ hown (hw _ (List.mem_of_getElem? (i := 39) rfl)) (hb hby d6_18) ?_
        exact Ends.retD X0 hx hlk hret (hb hby d6_21) (by decide) (by decide) ⟨by unfold own_m; rw [if_neg hc1_0, if_neg hc8_1, if_pos hc15_2], e0, rfl⟩
      · refine E.icmpY (q := 22) X0 hx (hb hby d6_15) (XT.ii_ne_t hc15_2) ?_
        refine E.iloadN (q := 23) X0 hx (hb hby d6_22) rfl ?_
        refine E.iconst (q := 24) (v := (3 : Int32)) X0 hx (hb hby d6_23) rfl ?_
        by_cases hc24_3 : xs = (3 : Int32)
        · refine E.icmpN (q := 27) X0 hx (hb hby d6_24) (XT.ii_ne_f hc24_3) ?_
          refine E.ldc2D (q := 30) X0 hx hZ hown (hw _ (List.mem_of_getElem? (i := 50) rfl)) (hb hby d6_27) ?_
          exact Ends.retD X0 hx hlk hret (hb hby d6_30) (by decide) (by decide) ⟨by unfold own_m; rw [if_neg hc1_0, if_neg hc8_1, if_neg hc15_2, if_pos hc24_3], e0, rfl⟩
        · refine E.icmpY (q := 31) X0 hx (hb hby d6_24) (XT.ii_ne_t hc24_3) ?_
          refine E.iloadN (q := 32) X0 hx (hb hby d6_31) rfl ?_
          refine E.iconst (q := 33) (v := (4 : Int32)) X0 hx (hb hby d6_32) rfl ?_
          by_cases hc33_4 : xs = (4 : Int32)
          · refine E.icmpN (q := 36) X0 hx (hb hby d6_33) (XT.ii_ne_f hc33_4) ?_
            refine E.ldc2D (q := 39) X0 hx hZ hown (hw _ (List.mem_of_getElem? (i := 66) rfl)) (hb hby d6_36) ?_
            exact Ends.retD X0 hx hlk hret (hb hby d6_39) (by decide) (by decide) ⟨by unfold own_m; rw [if_neg hc1_0, if_neg hc8_1, if_neg hc15_2, if_neg hc24_3, if_pos hc33_4], e0, rfl⟩
          · refine E.icmpY (q := 40) X0 hx (hb hby d6_33) (XT.ii_ne_t hc33_4) ?_
            refine E.iloadN (q := 41) X0 hx (hb hby d6_40) rfl ?_
            refine E.iconst (q := 42) (v := (5 : Int32)) X0 hx (hb hby d6_41) rfl ?_
            by_cases hc42_5 : xs = (5 : Int32)
            · refine E.icmpN (q := 45) X0 hx (hb hby d6_42) (XT.ii_ne_f hc42_5) ?_
              refine E.ldc2D (q := 48) X0 hx hZ hown (hw _ (List.mem_of_getElem? (i := 64) rfl)) (hb hby d6_45) ?_
              exact Ends.retD X0 hx hlk hret (hb hby d6_48) (by decide) (by decide) ⟨by unfold own_m; rw [if_neg hc1_0, if_neg hc8_1, if_neg hc15_2, if_neg hc24_3, if_neg hc33_4, if_pos hc42_5], e0, rfl⟩
            · refine E.icmpY (q := 49) X0 hx (hb hby d6_42) (XT.ii_ne_t hc42_5) ?_
              refine E.iloadN (q := 50) X0 hx (hb hby d6_49) rfl ?_
              refine E.bipush (q := 52) (v := (6 : Int32)) X0 hx (hb hby d6_50) rfl ?_
              by_cases hc52_6 : xs = (6 : Int32)
              · refine E.icmpN (q := 55) X0 hx (hb hby d6_52) (XT.ii_ne_f hc52_6) ?_
                refine E.ldc2D (q := 58) X0 hx hZ hown (hw _ (List.mem_of_getElem? (i := 65) rfl)) (hb hby d6_55) ?_
                exact Ends.retD X0 hx hlk hret (hb hby d6_58) (by decide) (by decide) ⟨by unfold own_m; rw [if_neg hc1_0, if_neg hc8_1, if_neg hc15_2, if_neg hc24_3, if_neg hc33_4, if_neg hc42_5, if_pos hc52_6], e0, rfl⟩
              · refine E.icmpY (q := 59) X0 hx (hb hby d6_52) (XT.ii_ne_t hc52_6) ?_
                refine E.ldc2D (q := 62) X0 hx hZ hown (hw _ (List.mem_of_getElem? (i := 38) rfl)) (hb hby d6_59) ?_
                exact Ends.retD X0 hx hlk hret (hb hby d6_62) (by decide) (by decide) ⟨by unfold own_m; rw [if_neg hc1_0, if_neg hc8_1, if_neg hc15_2, if_neg hc24_3, if_neg hc33_4, if_neg hc42_5, if_neg hc52_6], e0, rfl⟩
theorem ef_9 (m : MethodId) (x0 : Int32) (x1 : Int32) : entryFrame m #[(.int x0), (.int x1)] 2 = mkF m 0 #[.val (.int x0), .val (.int x1)] [] := by first | (simp [entryFrame, mkF, argsToLocals, Value.category]; done) | rfl
set_option maxRecDepth 65536 in
set_option maxHeartbeats 40000000 in
theorem rm9 (l : Launch) (Z : State) (a0 : Array Value) (hw : ∀ d ∈ tables_1, d.before a0 Z = true) (xv : Int32) (xb : Int32) (h0 : Heap) :
    Con l (⟨"com/example/hourline/hourline/network/EdgeValuesFirstUnfitPinLaw", "in", "(II)Z"⟩ : MethodName) method_4_code 2 (some .boolean) [] ({ frames := 0, cells := 0, slots := 0, locals := 0 } : Room) #[(.int xv), (.int xb)] Z h0 (fun v h L => v = some (.int (own_in xv xb)) ∧ h = h0 ∧ L = []) := by
  refine Con.of (plainFor_of_name pn_0) ?_
  intro p e s m below meth c s₁ hx hZ hby hml hown hnm hret hlk X0 e0
  refine Ends.cast (ef_9 m xv xb) ?_
  show Ends p e below s _ _ _ s₁ (mkF m 0 #[.val (.int xv), .val (.int xb)] [])
  refine E.iloadN (q := 1) X0 hx (hb hby d9_0) rfl ?_
  by_cases hc1_0 : xv < (0 : Int32)
  · refine E.ifY (q := 13) X0 hx (hb hby d9_1) (XT.i0_lt_t hc1_0) ?_
    refine E.iconst (q := 14) (v := (0 : Int32)) X0 hx (hb hby d9_13) rfl ?_
    exact Ends.retS X0 hx hlk hret (by simp) rfl (hb hby d9_14) (by decide) (by decide) ⟨by unfold own_in; rw [if_pos hc1_0], e0, rfl⟩
  · refine E.ifN (q := 4) X0 hx (hb hby d9_1) (XT.i0_lt_f hc1_0) ?_
    refine E.iloadN (q := 5) X0 hx (hb hby d9_4) rfl ?_
    refine E.iloadN (q := 6) X0 hx (hb hby d9_5) rfl ?_
    by_cases hc6_1 : xv < xb
    · refine E.icmpN (q := 9) X0 hx (hb hby d9_6) (XT.ii_ge_f hc6_1) ?_
      refine E.iconst (q := 10) (v := (1 : Int32)) X0 hx (hb hby d9_9) rfl ?_
      refine E.goto (q := 14) X0 hx (hb hby d9_10) ?_
      exact Ends.retS X0 hx hlk hret (by simp) rfl (hb hby d9_14) (by decide) (by decide) ⟨by unfold own_in; rw [if_neg hc1_0, if_pos hc6_1], e0, rfl⟩
    · refine E.icmpY (q := 13) X0 hx (hb hby d9_6) (XT.ii_ge_t hc6_1) ?_
      refine E.iconst (q := 14) (v := (0 : Int32)) X0 hx (hb hby d9_13) rfl ?_
      exact Ends.retS X0 hx hlk hret (by simp) rfl (hb hby d9_14) (by decide) (by decide) ⟨by unfold own_in; rw [if_neg hc1_0, if_neg hc6_1], e0, rfl⟩
theorem ef_13 (m : MethodId) (x0 : Int32) : entryFrame m #[(.int x0)] 1 = mkF m 0 #[.val (.int x0)] [] := by first | (simp [entryFrame, mkF, argsToLocals, Value.category]; done) | rfl
set_option maxRecDepth 65536 in
set_option maxHeartbeats 40000000 in
theorem rm13 (l : Launch) (Z : State) (a0 : Array Value) (hw : ∀ d ∈ tables_1, d.before a0 Z = true) (xs : Int32) (h0 : Heap) :
    Con l (⟨"com/example/hourline/hourline/network/EdgeValuesFirstUnfitPinLaw", "finite", "(I)Z"⟩ : MethodName) method_3_code 1 (some .boolean) [] ({ frames := 0, cells := 0, slots := 0, locals := 0 } : Room) #[(.int xs)] Z h0 (fun v h L => v = some (.int (own_fi xs)) ∧ h = h0 ∧ L = []) := by
  refine Con.of (plainFor_of_name pn_0) ?_
  intro p e s m below meth c s₁ hx hZ hby hml hown hnm hret hlk X0 e0
  refine Ends.cast (ef_13 m xs) ?_
  show Ends p e below s _ _ _ s₁ (mkF m 0 #[.val (.int xs)] [])
  refine E.iloadN (q := 1) X0 hx (hb hby d13_0) rfl ?_
  refine E.iconst (q := 2) (v := (5 : Int32)) X0 hx (hb hby d13_1) rfl ?_
  by_cases hc2_0 : xs = (5 : Int32)
  · refine E.icmpY (q := 15) X0 hx (hb hby d13_2) (XT.ii_eq_t hc2_0) ?_
    refine E.iconst (q := 16) (v := (0 : Int32)) X0 hx (hb hby d13_15) rfl ?_
    exact Ends.retS X0 hx hlk hret (by simp) rfl (hb hby d13_16) (by decide) (by decide) ⟨by unfold own_fi; rw [if_pos hc2_0], e0, rfl⟩
  · refine E.icmpN (q := 5) X0 hx (hb hby d13_2) (XT.ii_eq_f hc2_0) ?_
    refine E.iloadN (q := 6) X0 hx (hb hby d13_5) rfl ?_
    refine E.bipush (q := 8) (v := (6 : Int32)) X0 hx (hb hby d13_6) rfl ?_
    by_cases hc8_1 : xs = (6 : Int32)
    · refine E.icmpY (q := 15) X0 hx (hb hby d13_8) (XT.ii_eq_t hc8_1) ?_
      refine E.iconst (q := 16) (v := (0 : Int32)) X0 hx (hb hby d13_15) rfl ?_
      exact Ends.retS X0 hx hlk hret (by simp) rfl (hb hby d13_16) (by decide) (by decide) ⟨by unfold own_fi; rw [if_neg hc2_0, if_pos hc8_1], e0, rfl⟩
    · refine E.icmpN (q := 11) X0 hx (hb hby d13_8) (XT.ii_eq_f hc8_1) ?_
      refine E.iconst (q := 12) (v := (1 : Int32)) X0 hx (hb hby d13_11) rfl ?_
      refine E.goto (q := 16) X0 hx (hb hby d13_12) ?_
      exact Ends.retS X0 hx hlk hret (by simp) rfl (hb hby d13_16) (by decide) (by decide) ⟨by unfold own_fi; rw [if_neg hc2_0, if_neg hc8_1], e0, rfl⟩
theorem ef_11 (m : MethodId) (x0 : Addr) : entryFrame m #[(.ref x0)] 1 = mkF m 0 #[.val (.ref x0)] [] := by first | (simp [entryFrame, mkF, argsToLocals, Value.category]; done) | rfl
set_option maxRecDepth 65536 in
set_option maxHeartbeats 40000000 in
theorem rm11 (l : Launch) (Z : State) (a0 : Array Value) (hw : ∀ d ∈ tables_1, d.before a0 Z = true) (oa : Addr) (sz : Int32) (h0 : Heap) (F_s : Fld Z h0 oa "com/example/hourline/hourline/network/EdgeValues" "size" "I" (.int sz)) :
    Con l (⟨"com/example/hourline/hourline/network/EdgeValues", "size", "()I"⟩ : MethodName) prog_101_method_4_code 1 (some .int) [] ({ frames := 0, cells := 0, slots := 0, locals := 0 } : Room) #[(.ref oa)] Z h0 (fun v h L => v = some (.int sz) ∧ h = h0 ∧ L = []) := by
  refine Con.of (plainFor_of_name pn_1) ?_
  intro p e s m below meth c s₁ hx hZ hby hml hown hnm hret hlk X0 e0
  refine Ends.cast (ef_11 m oa) ?_
  show Ends p e below s _ _ _ s₁ (mkF m 0 #[.val (.ref oa)] [])
  refine E.aloadN (q := 1) X0 hx (hb hby d11_0) rfl rfl ?_
  refine Ends.getF X0 hx hZ hown (host := "") (Or.inl (hw _ (List.mem_of_getElem? (i := 30) rfl))) Via.refl e0 F_s (hb hby d11_1) ?_
  intro T1 X1 e1
  exact Ends.retI X1 hx hlk hret (hb hby d11_4) (by decide) (by decide) ⟨rfl, e1, rfl⟩
theorem ef_4 (m : MethodId) (x0 : Addr) (x1 : Addr) (x2 : Addr) (x3 : Int32) : entryFrame m #[(.ref x0), (.ref x1), (.ref x2), (.int x3)] 4 = mkF m 0 #[.val (.ref x0), .val (.ref x1), .val (.ref x2), .val (.int x3)] [] := by first | (simp [entryFrame, mkF, argsToLocals, Value.category]; done) | rfl
set_option maxRecDepth 65536 in
set_option maxHeartbeats 40000000 in
theorem rm4 (l : Launch) (Z : State) (a0 : Array Value) (hw : ∀ d ∈ tables_1, d.before a0 Z = true) (oa : Addr) (on : Addr) (om : Addr) (sz : Int32) (h0 : Heap) (E0 : Exa Z h0 oa "com/example/hourline/hourline/network/EdgeValues") (F_n : Fld Z h0 oa "com/example/hourline/hourline/network/EdgeValues" "numbers" "[[I" .null) (F_m : Fld Z h0 oa "com/example/hourline/hourline/network/EdgeValues" "measures" "[[D" .null) (F_s : Fld Z h0 oa "com/example/hourline/hourline/network/EdgeValues" "size" "I" (.int (0 : Int32))) :
    Con l (⟨"com/example/hourline/hourline/network/EdgeValues", "<init>", "([[I[[DI)V"⟩ : MethodName) prog_101_method_3_code 4 none [] ({ frames := 1, cells := 0, slots := 0, locals := 24 } : Room) #[(.ref oa), (.ref on), (.ref om), (.int sz)] Z h0 (fun v h L => v = none ∧ Ok h0 h [oa] L ∧ Fld Z h oa "com/example/hourline/hourline/network/EdgeValues" "numbers" "[[I" (.ref on) ∧ Fld Z h oa "com/example/hourline/hourline/network/EdgeValues" "measures" "[[D" (.ref om) ∧ Fld Z h oa "com/example/hourline/hourline/network/EdgeValues" "size" "I" (.int sz)) := by
  refine Con.of (plainFor_of_name pn_1) ?_
  intro p e s m below meth c s₁ hx hZ hby hml hown hnm hret hlk X0 e0
  refine Ends.cast (ef_4 m oa on om sz) ?_
  show Ends p e below s _ _ _ s₁ (mkF m 0 #[.val (.ref oa), .val (.ref on), .val (.ref om), .val (.int sz)] [])
  have O0 := Ok.refl h0 [oa]
  refine E.aloadN (q := 1) X0 hx (hb hby d4_0) rfl rfl ?_
  refine Ends.initO X0 hx hZ hown (hw _ (List.mem_of_getElem? (i := 23) rfl)) (hw _ (List.mem_of_getElem? (i := 24) rfl)) (hw _ (List.mem_of_getElem? (i := 25) rfl)) e0 (by rw [hml]; rfl) (hb hby d4_1) (by decide) (W := 0) (Nat.le_of_eq rfl) (by decide) ?_
  intro T2 X2 e2
  refine E.aloadN (q := 5) X2 hx (hb hby d4_4) rfl rfl ?_
  refine E.aloadN (q := 6) X2 hx (hb hby d4_5) rfl rfl ?_
  refine Ends.putF X2 hx hZ hown (host := "") (Or.inl (hw _ (List.mem_of_getElem? (i := 26) rfl))) Via.refl e2 F_n E0 (Or.inr ⟨(hw _ (List.mem_of_getElem? (i := 27) rfl)), rfl, hnm⟩) (hw _ (List.mem_of_getElem? (i := 9) rfl)) (ty := (.array (.array .int))) (by decide) rfl rfl (hb hby d4_6) ?_
  intro T3 h3 X3 e3 W3 Fw3
  have O3 := O0.wr W3 (Or.inl (List.mem_of_getElem? (i := 0) rfl))
  refine E.aloadN (q := 10) X3 hx (hb hby d4_9) rfl rfl ?_
  refine E.aloadN (q := 11) X3 hx (hb hby d4_10) rfl rfl ?_
  have f4 := F_m.other W3 (Or.inr (slot_ne (Or.inr (hw _ (List.mem_of_getElem? (i := 29) rfl))) (Or.inr (hw _ (List.mem_of_getElem? (i := 27) rfl))) (by decide) (t := (.array (.array .double))) (t' := (.array (.array .int))) (by decide) (by decide)))
  have f5 := E0.wr W3
  refine Ends.putF X3 hx hZ hown (host := "") (Or.inl (hw _ (List.mem_of_getElem? (i := 28) rfl))) Via.refl e3 f4 f5 (Or.inr ⟨(hw _ (List.mem_of_getElem? (i := 29) rfl)), rfl, hnm⟩) (hw _ (List.mem_of_getElem? (i := 9) rfl)) (ty := (.array (.array .double))) (by decide) rfl rfl (hb hby d4_11) ?_
  intro T6 h6 X6 e6 W6 Fw6
  have O6 := O3.wr W6 (Or.inl (List.mem_of_getElem? (i := 0) rfl))
  refine E.aloadN (q := 15) X6 hx (hb hby d4_14) rfl rfl ?_
  refine E.iloadN (q := 16) X6 hx (hb hby d4_15) rfl ?_
  have f7 := F_s.other W3 (Or.inr (slot_ne (Or.inl (hw _ (List.mem_of_getElem? (i := 31) rfl))) (Or.inr (hw _ (List.mem_of_getElem? (i := 27) rfl))) (by decide) (t := .int) (t' := (.array (.array .int))) (by decide) (by decide)))
  have f8 := f7.other W6 (Or.inr (slot_ne (Or.inl (hw _ (List.mem_of_getElem? (i := 31) rfl))) (Or.inr (hw _ (List.mem_of_getElem? (i := 29) rfl))) (by decide) (t := .int) (t' := (.array (.array .double))) (by decide) (by decide)))
  have f9 := f5.wr W6
  refine Ends.putF X6 hx hZ hown (host := "") (Or.inl (hw _ (List.mem_of_getElem? (i := 30) rfl))) Via.refl e6 f8 f9 (Or.inl (hw _ (List.mem_of_getElem? (i := 31) rfl))) (hw _ (List.mem_of_getElem? (i := 9) rfl)) (ty := .int) (by decide) rfl rfl (hb hby d4_16) ?_
  intro T10 h10 X10 e10 W10 Fw10
  have O10 := O6.wr W10 (Or.inl (List.mem_of_getElem? (i := 0) rfl))
  have f11 := Fw3.other W6 (Or.inr (slot_ne (Or.inr (hw _ (List.mem_of_getElem? (i := 27) rfl))) (Or.inr (hw _ (List.mem_of_getElem? (i := 29) rfl))) (by decide) (t := (.array (.array .int))) (t' := (.array (.array .double))) (by decide) (by decide)))
  have f12 := f11.other W10 (Or.inr (slot_ne (Or.inr (hw _ (List.mem_of_getElem? (i := 27) rfl))) (Or.inl (hw _ (List.mem_of_getElem? (i := 31) rfl))) (by decide) (t := (.array (.array .int))) (t' := .int) (by decide) (by decide)))
  have f13 := Fw6.other W10 (Or.inr (slot_ne (Or.inr (hw _ (List.mem_of_getElem? (i := 29) rfl))) (Or.inl (hw _ (List.mem_of_getElem? (i := 31) rfl))) (by decide) (t := (.array (.array .double))) (t' := .int) (by decide) (by decide)))
  subst e10
  exact Ends.retV X10 hx hlk hret (hb hby d4_19) (by decide) (by decide) ⟨rfl, O10, f12, f13, Fw10⟩
theorem efC0 (m : MethodId) (x0 : Addr) (x1 : Int32) (x2 : Int32) : entryFrame m #[(.ref x0), (.int x1), (.int x2)] 4 = mkF m 0 #[.val (.ref x0), .val (.int x1), .val (.int x2), .unset] [] := by first | (simp [entryFrame, mkF, argsToLocals, Value.category]; done) | rfl
set_option maxRecDepth 65536 in
set_option maxHeartbeats 40000000 in
theorem rmC0 (l : Launch) (Z : State) (a0 : Array Value) (hw : ∀ d ∈ tables_1, d.before a0 Z = true) (oa : Addr) (h0 : Heap) (E0 : Exa Z h0 oa "com/example/hourline/hourline/network/EdgeValues") (F_n : Fld Z h0 oa "com/example/hourline/hourline/network/EdgeValues" "numbers" "[[I" .null) (F_m : Fld Z h0 oa "com/example/hourline/hourline/network/EdgeValues" "measures" "[[D" .null) (F_s : Fld Z h0 oa "com/example/hourline/hourline/network/EdgeValues" "size" "I" (.int (0 : Int32))) (S0 : Sta Z h0 "com/example/hourline/hourline/network/EdgeValues" "NUMBERS" "I" (.int (4 : Int32))) :
    Con l (⟨"com/example/hourline/hourline/network/EdgeValues", "<init>", "(IZ)V"⟩ : MethodName) prog_101_method_2_code 4 none [] ({ frames := 2, cells := 8, slots := 24, locals := 60 } : Room) #[(.ref oa), (.int (3 : Int32)), (.int (0 : Int32))] Z h0 (fun v h L => v = none ∧ ∃ nA mA n0 n1 n2 n3 m0 m1 : Addr, Ok h0 h [oa] L ∧ (oa < nA ∧ nA < mA ∧ mA < n0 ∧ n0 < n1 ∧ n1 < n2 ∧ n2 < n3 ∧ n3 < m0 ∧ m0 < m1) ∧ h0.size ≤ nA ∧ Fld Z h oa "com/example/hourline/hourline/network/EdgeValues" "numbers" "[[I" (.ref nA) ∧ Fld Z h oa "com/example/hourline/hourline/network/EdgeValues" "measures" "[[D" (.ref mA) ∧ Fld Z h oa "com/example/hourline/hourline/network/EdgeValues" "size" "I" (.int (0 : Int32)) ∧ Ary Z h nA (.array .int) [.ref n0, .ref n1, .ref n2, .ref n3] ∧ Ary Z h mA (.array .double) [.ref m0, .ref m1] ∧ Ary Z h n0 .int [(.int (0 : Int32)), (.int (0 : Int32)), (.int (0 : Int32))] ∧ Ary Z h n1 .int [(.int (0 : Int32)), (.int (0 : Int32)), (.int (0 : Int32))] ∧ Ary Z h n2 .int [(.int (0 : Int32)), (.int (0 : Int32)), (.int (0 : Int32))] ∧ Ary Z h n3 .int [(.int (0 : Int32)), (.int (0 : Int32)), (.int (0 : Int32))] ∧ Ary Z h m0 .double [(.double (0 : UInt64)), (.double (0 : UInt64)), (.double (0 : UInt64))] ∧ Ary Z h m1 .double [(.double (0 : UInt64)), (.double (0 : UInt64)), (.double (0 : UInt64))]) := by
  refine Con.of (plainFor_of_name pn_1) ?_
  intro p e s m below meth c s₁ hx hZ hby hml hown hnm hret hlk X0 e0
  refine Ends.cast (efC0 m oa (3 : Int32) (0 : Int32)) ?_
  show Ends p e below s _ _ _ s₁ (mkF m 0 #[.val (.ref oa), .val (.int (3 : Int32)), .val (.int (0 : Int32)), .unset] [])
  have O0 := Ok.refl h0 [oa]
  refine E.aloadN (q := 1) X0 hx (hb hby d3_0) rfl rfl ?_
  refine Ends.getS X0 hx hZ hown (host := "") (Or.inl (hw _ (List.mem_of_getElem? (i := 14) rfl))) Via.refl e0 (own_sta_keep S0 O0.1 (own_ns E0)) (hb hby d3_1) ?_
  intro T14 X14 e14
  refine Ends.newA2 X14 hx hZ hown (ty := .int) (C := "[I") (by decide) (hw _ (List.mem_of_getElem? (i := 16) rfl)) (hw _ (List.mem_of_getElem? (i := 17) rfl)) e14 (hb hby d3_4) (N := 4) rfl (by decide) (by decide) (by decide) ?_
  intro T15 h15 b15 g15 X15 e15 E15 A15
  have ge_b15 : h0.size ≤ b15 := Nat.le_trans O0.le (Nat.le_of_eq g15.symm)
  have O15 := O0.ext E15
  have V15 : Ar2 Z h15 b15 .int "[I" [.null, .null, .null, .null] := A15
  refine E.iloadN (q := 8) X15 hx (hb hby d3_7) rfl ?_
  refine E.ifY (q := 15) X15 hx (hb hby d3_8) (XT.i0_eq_t (by decide)) ?_
  refine E.iconst (q := 16) (v := (2 : Int32)) X15 hx (hb hby d3_15) rfl ?_
  refine Ends.newA2 X15 hx hZ hown (ty := .double) (C := "[D") (by decide) (hw _ (List.mem_of_getElem? (i := 18) rfl)) (hw _ (List.mem_of_getElem? (i := 19) rfl)) e15 (hb hby d3_16) (N := 2) rfl (by decide) (by decide) (by decide) ?_
  intro T16 h16 b16 g16 X16 e16 E16 A16
  have ge_b16 : h0.size ≤ b16 := Nat.le_trans O15.le (Nat.le_of_eq g16.symm)
  have O16 := O15.ext E16
  have V16 : Ar2 Z h16 b16 .double "[D" [.null, .null] := A16
  refine E.iconst (q := 20) (v := (0 : Int32)) X16 hx (hb hby d3_19) rfl ?_
  have f17 := E0.ext E15
  have f18 := f17.ext E16
  have f19 := F_n.ext E15
  have f20 := f19.ext E16
  have f21 := F_m.ext E15
  have f22 := f21.ext E16
  have f23 := F_s.ext E15
  have f24 := f23.ext E16
  refine Ends.callI X16 hx hZ hown (hw _ (List.mem_of_getElem? (i := 20) rfl)) (hw _ (List.mem_of_getElem? (i := 21) rfl)) (hw _ (List.mem_of_getElem? (i := 10) rfl)) (hw _ (List.mem_of_getElem? (i := 22) rfl)) rfl (by decide) (argsL := [(.ref b15), (.ref b16), (.int (0 : Int32))]) (rest := []) e16 (rm4 l Z a0 hw oa b15 b16 (0 : Int32) h16 f18 f20 f22 f24) (W := 0) (by decide) (by decide) (by rw [hml]; rfl) (lenOf pd_0 rfl) (Nat.le_of_eq rfl) (hb hby d3_20) (by decide) (by decide) rfl ?_
  rintro T25 v25 L25 X25 ⟨rfl, hO25, hFn25, hFm25, hFs25⟩
  have e25 : T25.heap = T25.heap := rfl
  have O25 := O16.call hO25 (allS (Or.inl (List.mem_of_getElem? (i := 0) rfl)) all0)
  show Ends p e below s _ _ _ T25 (mkF m 23 #[.val (.ref oa), .val (.int (3 : Int32)), .val (.int (0 : Int32)), .unset] [])
  refine E.iconst (q := 24) (v := (0 : Int32)) X25 hx (hb hby d3_23) rfl ?_
  refine E.istoreN (q := 25) (l' := #[.val (.ref oa), .val (.int (3 : Int32)), .val (.int (0 : Int32)), .val (.int (0 : Int32))]) X25 hx (hb hby d3_24) rfl ?_
  refine E.iloadN (q := 26) X25 hx (hb hby d3_25) rfl ?_
  refine Ends.getS X25 hx hZ hown (host := "") (Or.inl (hw _ (List.mem_of_getElem? (i := 14) rfl))) Via.refl e25 (own_sta_keep S0 O25.1 (own_ns E0)) (hb hby d3_26) ?_
  intro T26 X26 e26
  refine E.icmpN (q := 32) X26 hx (hb hby d3_29) (XT.ii_ge_f (by decide)) ?_
  refine E.aloadN (q := 33) X26 hx (hb hby d3_32) rfl rfl ?_
  refine Ends.getF X26 hx hZ hown (host := "") (Or.inl (hw _ (List.mem_of_getElem? (i := 26) rfl))) Via.refl e26 hFn25 (hb hby d3_33) ?_
  intro T27 X27 e27
  refine E.iloadN (q := 37) X27 hx (hb hby d3_36) rfl ?_
  refine E.iloadN (q := 38) X27 hx (hb hby d3_37) rfl ?_
  refine Ends.newAE X27 hx hZ (hw _ (List.mem_of_getElem? (i := 7) rfl)) e27 (hb hby d3_38) (N := 3) rfl (by decide) (by decide) (by decide) (ad := "[I") (by decide) ?_
  intro T28 h28 b28 g28 X28 e28 E28 A28 B28
  have ge_b28 : h0.size ≤ b28 := Nat.le_trans O25.le (Nat.le_of_eq g28.symm)
  have O28 := O25.ext E28
  have V28 : Ary Z h28 b28 .int [(.int (0 : Int32)), (.int (0 : Int32)), (.int (0 : Int32))] := A28
  have f29 := V15.ext E16
  have f30 := f29.keep hO25.1 (ninS (Ne.symm (Nat.ne_of_lt (Nat.lt_of_lt_of_eq E0.lt g15.symm))) nin0)
  have f31 := f30.ext E28
  refine Ends.ast X28 hx hZ e28 f31 B28 (i := 0) rfl (show 0 < 4 from by decide) (hb hby d3_40) ?_
  intro T32 h32 X32 e32 W32 V32
  have V32 : Ar2 Z h32 b15 .int "[I" [(.ref b28), .null, .null, .null] := V32
  have O32 := O28.wr W32 (Or.inr ge_b15)
  refine E.iinc (q := 44) (v := (1 : Int32)) (l' := #[.val (.ref oa), .val (.int (3 : Int32)), .val (.int (0 : Int32)), .val (.int (1 : Int32))]) X32 hx (hb hby d3_41) rfl (by decide) rfl ?_
  refine E.goto (q := 25) X32 hx (hb hby d3_44) ?_
  refine E.iloadN (q := 26) X32 hx (hb hby d3_25) rfl ?_
  refine Ends.getS X32 hx hZ hown (host := "") (Or.inl (hw _ (List.mem_of_getElem? (i := 14) rfl))) Via.refl e32 (own_sta_keep S0 O32.1 (own_ns E0)) (hb hby d3_26) ?_
  intro T33 X33 e33
  refine E.icmpN (q := 32) X33 hx (hb hby d3_29) (XT.ii_ge_f (by decide)) ?_
  refine E.aloadN (q := 33) X33 hx (hb hby d3_32) rfl rfl ?_
  have f34 := hFn25.ext E28
  have f35 := f34.other W32 (Or.inl (Nat.ne_of_lt (Nat.lt_of_lt_of_eq E0.lt g15.symm)))
  refine Ends.getF X33 hx hZ hown (host := "") (Or.inl (hw _ (List.mem_of_getElem? (i := 26) rfl))) Via.refl e33 f35 (hb hby d3_33) ?_
  intro T36 X36 e36
  refine E.iloadN (q := 37) X36 hx (hb hby d3_36) rfl ?_
  refine E.iloadN (q := 38) X36 hx (hb hby d3_37) rfl ?_
  refine Ends.newAE X36 hx hZ (hw _ (List.mem_of_getElem? (i := 7) rfl)) e36 (hb hby d3_38) (N := 3) rfl (by decide) (by decide) (by decide) (ad := "[I") (by decide) ?_
  intro T37 h37 b37 g37 X37 e37 E37 A37 B37
  have ge_b37 : h0.size ≤ b37 := Nat.le_trans O32.le (Nat.le_of_eq g37.symm)
  have O37 := O32.ext E37
  have V37 : Ary Z h37 b37 .int [(.int (0 : Int32)), (.int (0 : Int32)), (.int (0 : Int32))] := A37
  have f38 := V32.ext E37
  refine Ends.ast X37 hx hZ e37 f38 B37 (i := 1) rfl (show 1 < 4 from by decide) (hb hby d3_40) ?_
  intro T39 h39 X39 e39 W39 V39
  have V39 : Ar2 Z h39 b15 .int "[I" [(.ref b28), (.ref b37), .null, .null] := V39
  have O39 := O37.wr W39 (Or.inr ge_b15)
  refine E.iinc (q := 44) (v := (2 : Int32)) (l' := #[.val (.ref oa), .val (.int (3 : Int32)), .val (.int (0 : Int32)), .val (.int (2 : Int32))]) X39 hx (hb hby d3_41) rfl (by decide) rfl ?_
  refine E.goto (q := 25) X39 hx (hb hby d3_44) ?_
  refine E.iloadN (q := 26) X39 hx (hb hby d3_25) rfl ?_
  refine Ends.getS X39 hx hZ hown (host := "") (Or.inl (hw _ (List.mem_of_getElem? (i := 14) rfl))) Via.refl e39 (own_sta_keep S0 O39.1 (own_ns E0)) (hb hby d3_26) ?_
  intro T40 X40 e40
  refine E.icmpN (q := 32) X40 hx (hb hby d3_29) (XT.ii_ge_f (by decide)) ?_
  refine E.aloadN (q := 33) X40 hx (hb hby d3_32) rfl rfl ?_
  have f41 := f35.ext E37
  have f42 := f41.other W39 (Or.inl (Nat.ne_of_lt (Nat.lt_of_lt_of_eq E0.lt g15.symm)))
  refine Ends.getF X40 hx hZ hown (host := "") (Or.inl (hw _ (List.mem_of_getElem? (i := 26) rfl))) Via.refl e40 f42 (hb hby d3_33) ?_
  intro T43 X43 e43
  refine E.iloadN (q := 37) X43 hx (hb hby d3_36) rfl ?_
  refine E.iloadN (q := 38) X43 hx (hb hby d3_37) rfl ?_
  refine Ends.newAE X43 hx hZ (hw _ (List.mem_of_getElem? (i := 7) rfl)) e43 (hb hby d3_38) (N := 3) rfl (by decide) (by decide) (by decide) (ad := "[I") (by decide) ?_
  intro T44 h44 b44 g44 X44 e44 E44 A44 B44
  have ge_b44 : h0.size ≤ b44 := Nat.le_trans O39.le (Nat.le_of_eq g44.symm)
  have O44 := O39.ext E44
  have V44 : Ary Z h44 b44 .int [(.int (0 : Int32)), (.int (0 : Int32)), (.int (0 : Int32))] := A44
  have f45 := V39.ext E44
  refine Ends.ast X44 hx hZ e44 f45 B44 (i := 2) rfl (show 2 < 4 from by decide) (hb hby d3_40) ?_
  intro T46 h46 X46 e46 W46 V46
  have V46 : Ar2 Z h46 b15 .int "[I" [(.ref b28), (.ref b37), (.ref b44), .null] := V46
  have O46 := O44.wr W46 (Or.inr ge_b15)
  refine E.iinc (q := 44) (v := (3 : Int32)) (l' := #[.val (.ref oa), .val (.int (3 : Int32)), .val (.int (0 : Int32)), .val (.int (3 : Int32))]) X46 hx (hb hby d3_41) rfl (by decide) rfl ?_
  refine E.goto (q := 25) X46 hx (hb hby d3_44) ?_
  refine E.iloadN (q := 26) X46 hx (hb hby d3_25) rfl ?_
  refine Ends.getS X46 hx hZ hown (host := "") (Or.inl (hw _ (List.mem_of_getElem? (i := 14) rfl))) Via.refl e46 (own_sta_keep S0 O46.1 (own_ns E0)) (hb hby d3_26) ?_
  intro T47 X47 e47
  refine E.icmpN (q := 32) X47 hx (hb hby d3_29) (XT.ii_ge_f (by decide)) ?_
  refine E.aloadN (q := 33) X47 hx (hb hby d3_32) rfl rfl ?_
  have f48 := f42.ext E44
  have f49 := f48.other W46 (Or.inl (Nat.ne_of_lt (Nat.lt_of_lt_of_eq E0.lt g15.symm)))
  refine Ends.getF X47 hx hZ hown (host := "") (Or.inl (hw _ (List.mem_of_getElem? (i := 26) rfl))) Via.refl e47 f49 (hb hby d3_33) ?_
  intro T50 X50 e50
  refine E.iloadN (q := 37) X50 hx (hb hby d3_36) rfl ?_
  refine E.iloadN (q := 38) X50 hx (hb hby d3_37) rfl ?_
  refine Ends.newAE X50 hx hZ (hw _ (List.mem_of_getElem? (i := 7) rfl)) e50 (hb hby d3_38) (N := 3) rfl (by decide) (by decide) (by decide) (ad := "[I") (by decide) ?_
  intro T51 h51 b51 g51 X51 e51 E51 A51 B51
  have ge_b51 : h0.size ≤ b51 := Nat.le_trans O46.le (Nat.le_of_eq g51.symm)
  have O51 := O46.ext E51
  have V51 : Ary Z h51 b51 .int [(.int (0 : Int32)), (.int (0 : Int32)), (.int (0 : Int32))] := A51
  have f52 := V46.ext E51
  refine Ends.ast X51 hx hZ e51 f52 B51 (i := 3) rfl (show 3 < 4 from by decide) (hb hby d3_40) ?_
  intro T53 h53 X53 e53 W53 V53
  have V53 : Ar2 Z h53 b15 .int "[I" [(.ref b28), (.ref b37), (.ref b44), (.ref b51)] := V53
  have O53 := O51.wr W53 (Or.inr ge_b15)
  refine E.iinc (q := 44) (v := (4 : Int32)) (l' := #[.val (.ref oa), .val (.int (3 : Int32)), .val (.int (0 : Int32)), .val (.int (4 : Int32))]) X53 hx (hb hby d3_41) rfl (by decide) rfl ?_
  refine E.goto (q := 25) X53 hx (hb hby d3_44) ?_
  refine E.iloadN (q := 26) X53 hx (hb hby d3_25) rfl ?_
  refine Ends.getS X53 hx hZ hown (host := "") (Or.inl (hw _ (List.mem_of_getElem? (i := 14) rfl))) Via.refl e53 (own_sta_keep S0 O53.1 (own_ns E0)) (hb hby d3_26) ?_
  intro T54 X54 e54
  refine E.icmpY (q := 47) X54 hx (hb hby d3_29) (XT.ii_ge_t (by decide)) ?_
  refine E.iconst (q := 48) (v := (0 : Int32)) X54 hx (hb hby d3_47) rfl ?_
  refine E.istoreN (q := 49) (l' := #[.val (.ref oa), .val (.int (3 : Int32)), .val (.int (0 : Int32)), .val (.int (0 : Int32))]) X54 hx (hb hby d3_48) rfl ?_
  refine E.iloadN (q := 50) X54 hx (hb hby d3_49) rfl ?_
  refine E.aloadN (q := 51) X54 hx (hb hby d3_50) rfl rfl ?_
  have f55 := hFm25.ext E28
  have f56 := f55.other W32 (Or.inl (Nat.ne_of_lt (Nat.lt_of_lt_of_eq E0.lt g15.symm)))
  have f57 := f56.ext E37
  have f58 := f57.other W39 (Or.inl (Nat.ne_of_lt (Nat.lt_of_lt_of_eq E0.lt g15.symm)))
  have f59 := f58.ext E44
  have f60 := f59.other W46 (Or.inl (Nat.ne_of_lt (Nat.lt_of_lt_of_eq E0.lt g15.symm)))
  have f61 := f60.ext E51
  have f62 := f61.other W53 (Or.inl (Nat.ne_of_lt (Nat.lt_of_lt_of_eq E0.lt g15.symm)))
  refine Ends.getF X54 hx hZ hown (host := "") (Or.inl (hw _ (List.mem_of_getElem? (i := 28) rfl))) Via.refl e54 f62 (hb hby d3_51) ?_
  intro T63 X63 e63
  have f64 := V16.keep hO25.1 (ninS (Ne.symm (Nat.ne_of_lt (Nat.lt_of_lt_of_eq f17.lt g16.symm))) nin0)
  have f65 := f64.ext E28
  have f66 := f65.other W32 (Ne.symm (Nat.ne_of_lt (Nat.lt_of_lt_of_eq V15.lt g16.symm)))
  have f67 := f66.ext E37
  have f68 := f67.other W39 (Ne.symm (Nat.ne_of_lt (Nat.lt_of_lt_of_eq V15.lt g16.symm)))
  have f69 := f68.ext E44
  have f70 := f69.other W46 (Ne.symm (Nat.ne_of_lt (Nat.lt_of_lt_of_eq V15.lt g16.symm)))
  have f71 := f70.ext E51
  have f72 := f71.other W53 (Ne.symm (Nat.ne_of_lt (Nat.lt_of_lt_of_eq V15.lt g16.symm)))
  refine Ends.alen X63 hx hZ e63 f72.ary (hb hby d3_54) (n := (2 : Int32)) rfl ?_
  refine E.icmpN (q := 58) X63 hx (hb hby d3_55) (XT.ii_ge_f (by decide)) ?_
  refine E.aloadN (q := 59) X63 hx (hb hby d3_58) rfl rfl ?_
  refine Ends.getF X63 hx hZ hown (host := "") (Or.inl (hw _ (List.mem_of_getElem? (i := 28) rfl))) Via.refl e63 f62 (hb hby d3_59) ?_
  intro T73 X73 e73
  refine E.iloadN (q := 63) X73 hx (hb hby d3_62) rfl ?_
  refine E.iloadN (q := 64) X73 hx (hb hby d3_63) rfl ?_
  refine Ends.newAE X73 hx hZ (hw _ (List.mem_of_getElem? (i := 33) rfl)) e73 (hb hby d3_64) (N := 3) rfl (by decide) (by decide) (by decide) (ad := "[D") (by decide) ?_
  intro T74 h74 b74 g74 X74 e74 E74 A74 B74
  have ge_b74 : h0.size ≤ b74 := Nat.le_trans O53.le (Nat.le_of_eq g74.symm)
  have O74 := O53.ext E74
  have V74 : Ary Z h74 b74 .double [(.double (0 : UInt64)), (.double (0 : UInt64)), (.double (0 : UInt64))] := A74
  have f75 := f72.ext E74
  refine Ends.ast X74 hx hZ e74 f75 B74 (i := 0) rfl (show 0 < 2 from by decide) (hb hby d3_66) ?_
  intro T76 h76 X76 e76 W76 V76
  have V76 : Ar2 Z h76 b16 .double "[D" [(.ref b74), .null] := V76
  have O76 := O74.wr W76 (Or.inr ge_b16)
  refine E.iinc (q := 70) (v := (1 : Int32)) (l' := #[.val (.ref oa), .val (.int (3 : Int32)), .val (.int (0 : Int32)), .val (.int (1 : Int32))]) X76 hx (hb hby d3_67) rfl (by decide) rfl ?_
  refine E.goto (q := 49) X76 hx (hb hby d3_70) ?_
  refine E.iloadN (q := 50) X76 hx (hb hby d3_49) rfl ?_
  refine E.aloadN (q := 51) X76 hx (hb hby d3_50) rfl rfl ?_
  have f77 := f62.ext E74
  have f78 := f77.other W76 (Or.inl (Nat.ne_of_lt (Nat.lt_of_lt_of_eq f17.lt g16.symm)))
  refine Ends.getF X76 hx hZ hown (host := "") (Or.inl (hw _ (List.mem_of_getElem? (i := 28) rfl))) Via.refl e76 f78 (hb hby d3_51) ?_
  intro T79 X79 e79
  refine Ends.alen X79 hx hZ e79 V76.ary (hb hby d3_54) (n := (2 : Int32)) rfl ?_
  refine E.icmpN (q := 58) X79 hx (hb hby d3_55) (XT.ii_ge_f (by decide)) ?_
  refine E.aloadN (q := 59) X79 hx (hb hby d3_58) rfl rfl ?_
  refine Ends.getF X79 hx hZ hown (host := "") (Or.inl (hw _ (List.mem_of_getElem? (i := 28) rfl))) Via.refl e79 f78 (hb hby d3_59) ?_
  intro T80 X80 e80
  refine E.iloadN (q := 63) X80 hx (hb hby d3_62) rfl ?_
  refine E.iloadN (q := 64) X80 hx (hb hby d3_63) rfl ?_
  refine Ends.newAE X80 hx hZ (hw _ (List.mem_of_getElem? (i := 33) rfl)) e80 (hb hby d3_64) (N := 3) rfl (by decide) (by decide) (by decide) (ad := "[D") (by decide) ?_
  intro T81 h81 b81 g81 X81 e81 E81 A81 B81
  have ge_b81 : h0.size ≤ b81 := Nat.le_trans O76.le (Nat.le_of_eq g81.symm)
  have O81 := O76.ext E81
  have V81 : Ary Z h81 b81 .double [(.double (0 : UInt64)), (.double (0 : UInt64)), (.double (0 : UInt64))] := A81
  have f82 := V76.ext E81
  refine Ends.ast X81 hx hZ e81 f82 B81 (i := 1) rfl (show 1 < 2 from by decide) (hb hby d3_66) ?_
  intro T83 h83 X83 e83 W83 V83
  have V83 : Ar2 Z h83 b16 .double "[D" [(.ref b74), (.ref b81)] := V83
  have O83 := O81.wr W83 (Or.inr ge_b16)
  refine E.iinc (q := 70) (v := (2 : Int32)) (l' := #[.val (.ref oa), .val (.int (3 : Int32)), .val (.int (0 : Int32)), .val (.int (2 : Int32))]) X83 hx (hb hby d3_67) rfl (by decide) rfl ?_
  refine E.goto (q := 49) X83 hx (hb hby d3_70) ?_
  refine E.iloadN (q := 50) X83 hx (hb hby d3_49) rfl ?_
  refine E.aloadN (q := 51) X83 hx (hb hby d3_50) rfl rfl ?_
  have f84 := f78.ext E81
  have f85 := f84.other W83 (Or.inl (Nat.ne_of_lt (Nat.lt_of_lt_of_eq f17.lt g16.symm)))
  refine Ends.getF X83 hx hZ hown (host := "") (Or.inl (hw _ (List.mem_of_getElem? (i := 28) rfl))) Via.refl e83 f85 (hb hby d3_51) ?_
  intro T86 X86 e86
  refine Ends.alen X86 hx hZ e86 V83.ary (hb hby d3_54) (n := (2 : Int32)) rfl ?_
  refine E.icmpY (q := 73) X86 hx (hb hby d3_55) (XT.ii_ge_t (by decide)) ?_
  have f87 := V28.other W32 (Ne.symm (Nat.ne_of_lt (Nat.lt_of_lt_of_eq f30.lt g28.symm)))
  have f88 := V37.other W39 (Ne.symm (Nat.ne_of_lt (Nat.lt_of_lt_of_eq V32.lt g37.symm)))
  have f89 := V44.other W46 (Ne.symm (Nat.ne_of_lt (Nat.lt_of_lt_of_eq V39.lt g44.symm)))
  have f90 := V51.other W53 (Ne.symm (Nat.ne_of_lt (Nat.lt_of_lt_of_eq V46.lt g51.symm)))
  have f91 := V74.other W76 (Ne.symm (Nat.ne_of_lt (Nat.lt_of_lt_of_eq f72.lt g74.symm)))
  have f92 := f49.ext E51
  have f93 := f92.other W53 (Or.inl (Nat.ne_of_lt (Nat.lt_of_lt_of_eq E0.lt g15.symm)))
  have f94 := f93.ext E74
  have f95 := f94.other W76 (Or.inl (Nat.ne_of_lt (Nat.lt_of_lt_of_eq f17.lt g16.symm)))
  have f96 := f95.ext E81
  have f97 := f96.other W83 (Or.inl (Nat.ne_of_lt (Nat.lt_of_lt_of_eq f17.lt g16.symm)))
  have f98 := hFs25.ext E28
  have f99 := f98.other W32 (Or.inl (Nat.ne_of_lt (Nat.lt_of_lt_of_eq E0.lt g15.symm)))
  have f100 := f99.ext E37
  have f101 := f100.other W39 (Or.inl (Nat.ne_of_lt (Nat.lt_of_lt_of_eq E0.lt g15.symm)))
  have f102 := f101.ext E44
  have f103 := f102.other W46 (Or.inl (Nat.ne_of_lt (Nat.lt_of_lt_of_eq E0.lt g15.symm)))
  have f104 := f103.ext E51
  have f105 := f104.other W53 (Or.inl (Nat.ne_of_lt (Nat.lt_of_lt_of_eq E0.lt g15.symm)))
  have f106 := f105.ext E74
  have f107 := f106.other W76 (Or.inl (Nat.ne_of_lt (Nat.lt_of_lt_of_eq f17.lt g16.symm)))
  have f108 := f107.ext E81
  have f109 := f108.other W83 (Or.inl (Nat.ne_of_lt (Nat.lt_of_lt_of_eq f17.lt g16.symm)))
  have f110 := V53.ext E74
  have f111 := f110.other W76 (Nat.ne_of_lt (Nat.lt_of_lt_of_eq V15.lt g16.symm))
  have f112 := f111.ext E81
  have f113 := f112.other W83 (Nat.ne_of_lt (Nat.lt_of_lt_of_eq V15.lt g16.symm))
  have f114 := f87.ext E37
  have f115 := f114.other W39 (Ne.symm (Nat.ne_of_lt (Nat.lt_of_lt_of_eq f30.lt g28.symm)))
  have f116 := f115.ext E44
  have f117 := f116.other W46 (Ne.symm (Nat.ne_of_lt (Nat.lt_of_lt_of_eq f30.lt g28.symm)))
  have f118 := f117.ext E51
  have f119 := f118.other W53 (Ne.symm (Nat.ne_of_lt (Nat.lt_of_lt_of_eq f30.lt g28.symm)))
  have f120 := f119.ext E74
  have f121 := f120.other W76 (Ne.symm (Nat.ne_of_lt (Nat.lt_of_lt_of_eq f64.lt g28.symm)))
  have f122 := f121.ext E81
  have f123 := f122.other W83 (Ne.symm (Nat.ne_of_lt (Nat.lt_of_lt_of_eq f64.lt g28.symm)))
  have f124 := f88.ext E44
  have f125 := f124.other W46 (Ne.symm (Nat.ne_of_lt (Nat.lt_of_lt_of_eq V32.lt g37.symm)))
  have f126 := f125.ext E51
  have f127 := f126.other W53 (Ne.symm (Nat.ne_of_lt (Nat.lt_of_lt_of_eq V32.lt g37.symm)))
  have f128 := f127.ext E74
  have f129 := f128.other W76 (Ne.symm (Nat.ne_of_lt (Nat.lt_of_lt_of_eq f66.lt g37.symm)))
  have f130 := f129.ext E81
  have f131 := f130.other W83 (Ne.symm (Nat.ne_of_lt (Nat.lt_of_lt_of_eq f66.lt g37.symm)))
  have f132 := f89.ext E51
  have f133 := f132.other W53 (Ne.symm (Nat.ne_of_lt (Nat.lt_of_lt_of_eq V39.lt g44.symm)))
  have f134 := f133.ext E74
  have f135 := f134.other W76 (Ne.symm (Nat.ne_of_lt (Nat.lt_of_lt_of_eq f68.lt g44.symm)))
  have f136 := f135.ext E81
  have f137 := f136.other W83 (Ne.symm (Nat.ne_of_lt (Nat.lt_of_lt_of_eq f68.lt g44.symm)))
  have f138 := f90.ext E74
  have f139 := f138.other W76 (Ne.symm (Nat.ne_of_lt (Nat.lt_of_lt_of_eq f70.lt g51.symm)))
  have f140 := f139.ext E81
  have f141 := f140.other W83 (Ne.symm (Nat.ne_of_lt (Nat.lt_of_lt_of_eq f70.lt g51.symm)))
  have f142 := f91.ext E81
  have f143 := f142.other W83 (Ne.symm (Nat.ne_of_lt (Nat.lt_of_lt_of_eq f72.lt g74.symm)))
  have f144 := V81.other W83 (Ne.symm (Nat.ne_of_lt (Nat.lt_of_lt_of_eq V76.lt g81.symm)))
  subst e86
  exact Ends.retV X86 hx hlk hret (hb hby d3_73) (by decide) (by decide) ⟨rfl, b15, b16, b28, b37, b44, b51, b74, b81, O83, ⟨(Nat.lt_of_lt_of_eq E0.lt g15.symm), (Nat.lt_of_lt_of_eq V15.lt g16.symm), (Nat.lt_of_lt_of_eq f64.lt g28.symm), (Nat.lt_of_lt_of_eq f87.lt g37.symm), (Nat.lt_of_lt_of_eq f88.lt g44.symm), (Nat.lt_of_lt_of_eq f89.lt g51.symm), (Nat.lt_of_lt_of_eq f90.lt g74.symm), (Nat.lt_of_lt_of_eq f91.lt g81.symm)⟩, ge_b15, f97, f85, f109, f113.ary, V83.ary, f123, f131, f137, f141, f143, f144⟩
theorem efC1 (m : MethodId) (x0 : Addr) (x1 : Int32) (x2 : Int32) : entryFrame m #[(.ref x0), (.int x1), (.int x2)] 4 = mkF m 0 #[.val (.ref x0), .val (.int x1), .val (.int x2), .unset] [] := by first | (simp [entryFrame, mkF, argsToLocals, Value.category]; done) | rfl
set_option maxRecDepth 65536 in
set_option maxHeartbeats 40000000 in
theorem rmC1 (l : Launch) (Z : State) (a0 : Array Value) (hw : ∀ d ∈ tables_1, d.before a0 Z = true) (oa : Addr) (h0 : Heap) (E0 : Exa Z h0 oa "com/example/hourline/hourline/network/EdgeValues") (F_n : Fld Z h0 oa "com/example/hourline/hourline/network/EdgeValues" "numbers" "[[I" .null) (F_m : Fld Z h0 oa "com/example/hourline/hourline/network/EdgeValues" "measures" "[[D" .null) (F_s : Fld Z h0 oa "com/example/hourline/hourline/network/EdgeValues" "size" "I" (.int (0 : Int32))) (S0 : Sta Z h0 "com/example/hourline/hourline/network/EdgeValues" "NUMBERS" "I" (.int (4 : Int32))) :
    Con l (⟨"com/example/hourline/hourline/network/EdgeValues", "<init>", "(IZ)V"⟩ : MethodName) prog_101_method_2_code 4 none [] ({ frames := 2, cells := 10, slots := 32, locals := 60 } : Room) #[(.ref oa), (.int (3 : Int32)), (.int (1 : Int32))] Z h0 (fun v h L => v = none ∧ ∃ nA mA n0 n1 n2 n3 m0 m1 m2 m3 : Addr, Ok h0 h [oa] L ∧ (oa < nA ∧ nA < mA ∧ mA < n0 ∧ n0 < n1 ∧ n1 < n2 ∧ n2 < n3 ∧ n3 < m0 ∧ m0 < m1 ∧ m1 < m2 ∧ m2 < m3) ∧ h0.size ≤ nA ∧ Fld Z h oa "com/example/hourline/hourline/network/EdgeValues" "numbers" "[[I" (.ref nA) ∧ Fld Z h oa "com/example/hourline/hourline/network/EdgeValues" "measures" "[[D" (.ref mA) ∧ Fld Z h oa "com/example/hourline/hourline/network/EdgeValues" "size" "I" (.int (0 : Int32)) ∧ Ary Z h nA (.array .int) [.ref n0, .ref n1, .ref n2, .ref n3] ∧ Ary Z h mA (.array .double) [.ref m0, .ref m1, .ref m2, .ref m3] ∧ Ary Z h n0 .int [(.int (0 : Int32)), (.int (0 : Int32)), (.int (0 : Int32))] ∧ Ary Z h n1 .int [(.int (0 : Int32)), (.int (0 : Int32)), (.int (0 : Int32))] ∧ Ary Z h n2 .int [(.int (0 : Int32)), (.int (0 : Int32)), (.int (0 : Int32))] ∧ Ary Z h n3 .int [(.int (0 : Int32)), (.int (0 : Int32)), (.int (0 : Int32))] ∧ Ary Z h m0 .double [(.double (0 : UInt64)), (.double (0 : UInt64)), (.double (0 : UInt64))] ∧ Ary Z h m1 .double [(.double (0 : UInt64)), (.double (0 : UInt64)), (.double (0 : UInt64))] ∧ Ary Z h m2 .double [(.double (0 : UInt64)), (.double (0 : UInt64)), (.double (0 : UInt64))] ∧ Ary Z h m3 .double [(.double (0 : UInt64)), (.double (0 : UInt64)), (.double (0 : UInt64))]) := by
  refine Con.of (plainFor_of_name pn_1) ?_
  intro p e s m below meth c s₁ hx hZ hby hml hown hnm hret hlk X0 e0
  refine Ends.cast (efC1 m oa (3 : Int32) (1 : Int32)) ?_
  show Ends p e below s _ _ _ s₁ (mkF m 0 #[.val (.ref oa), .val (.int (3 : Int32)), .val (.int (1 : Int32)), .unset] [])
  have O0 := Ok.refl h0 [oa]
  refine E.aloadN (q := 1) X0 hx (hb hby d3_0) rfl rfl ?_
  refine Ends.getS X0 hx hZ hown (host := "") (Or.inl (hw _ (List.mem_of_getElem? (i := 14) rfl))) Via.refl e0 (own_sta_keep S0 O0.1 (own_ns E0)) (hb hby d3_1) ?_
  intro T145 X145 e145
  refine Ends.newA2 X145 hx hZ hown (ty := .int) (C := "[I") (by decide) (hw _ (List.mem_of_getElem? (i := 16) rfl)) (hw _ (List.mem_of_getElem? (i := 17) rfl)) e145 (hb hby d3_4) (N := 4) rfl (by decide) (by decide) (by decide) ?_
  intro T146 h146 b146 g146 X146 e146 E146 A146
  have ge_b146 : h0.size ≤ b146 := Nat.le_trans O0.le (Nat.le_of_eq g146.symm)
  have O146 := O0.ext E146
  have V146 : Ar2 Z h146 b146 .int "[I" [.null, .null, .null, .null] := A146
  refine E.iloadN (q := 8) X146 hx (hb hby d3_7) rfl ?_
  refine E.ifN (q := 11) X146 hx (hb hby d3_8) (XT.i0_eq_f (by decide)) ?_
  refine E.iconst (q := 12) (v := (4 : Int32)) X146 hx (hb hby d3_11) rfl ?_
  refine E.goto (q := 16) X146 hx (hb hby d3_12) ?_
  refine Ends.newA2 X146 hx hZ hown (ty := .double) (C := "[D") (by decide) (hw _ (List.mem_of_getElem? (i := 18) rfl)) (hw _ (List.mem_of_getElem? (i := 19) rfl)) e146 (hb hby d3_16) (N := 4) rfl (by decide) (by decide) (by decide) ?_
  intro T147 h147 b147 g147 X147 e147 E147 A147
  have ge_b147 : h0.size ≤ b147 := Nat.le_trans O146.le (Nat.le_of_eq g147.symm)
  have O147 := O146.ext E147
  have V147 : Ar2 Z h147 b147 .double "[D" [.null, .null, .null, .null] := A147
  refine E.iconst (q := 20) (v := (0 : Int32)) X147 hx (hb hby d3_19) rfl ?_
  have f148 := E0.ext E146
  have f149 := f148.ext E147
  have f150 := F_n.ext E146
  have f151 := f150.ext E147
  have f152 := F_m.ext E146
  have f153 := f152.ext E147
  have f154 := F_s.ext E146
  have f155 := f154.ext E147
  refine Ends.callI X147 hx hZ hown (hw _ (List.mem_of_getElem? (i := 20) rfl)) (hw _ (List.mem_of_getElem? (i := 21) rfl)) (hw _ (List.mem_of_getElem? (i := 10) rfl)) (hw _ (List.mem_of_getElem? (i := 22) rfl)) rfl (by decide) (argsL := [(.ref b146), (.ref b147), (.int (0 : Int32))]) (rest := []) e147 (rm4 l Z a0 hw oa b146 b147 (0 : Int32) h147 f149 f151 f153 f155) (W := 0) (by decide) (by decide) (by rw [hml]; rfl) (lenOf pd_0 rfl) (Nat.le_of_eq rfl) (hb hby d3_20) (by decide) (by decide) rfl ?_
  rintro T156 v156 L156 X156 ⟨rfl, hO156, hFn156, hFm156, hFs156⟩
  have e156 : T156.heap = T156.heap := rfl
  have O156 := O147.call hO156 (allS (Or.inl (List.mem_of_getElem? (i := 0) rfl)) all0)
  show Ends p e below s _ _ _ T156 (mkF m 23 #[.val (.ref oa), .val (.int (3 : Int32)), .val (.int (1 : Int32)), .unset] [])
  refine E.iconst (q := 24) (v := (0 : Int32)) X156 hx (hb hby d3_23) rfl ?_
  refine E.istoreN (q := 25) (l' := #[.val (.ref oa), .val (.int (3 : Int32)), .val (.int (1 : Int32)), .val (.int (0 : Int32))]) X156 hx (hb hby d3_24) rfl ?_
  refine E.iloadN (q := 26) X156 hx (hb hby d3_25) rfl ?_
  refine Ends.getS X156 hx hZ hown (host := "") (Or.inl (hw _ (List.mem_of_getElem? (i := 14) rfl))) Via.refl e156 (own_sta_keep S0 O156.1 (own_ns E0)) (hb hby d3_26) ?_
  intro T157 X157 e157
  refine E.icmpN (q := 32) X157 hx (hb hby d3_29) (XT.ii_ge_f (by decide)) ?_
  refine E.aloadN (q := 33) X157 hx (hb hby d3_32) rfl rfl ?_
  refine Ends.getF X157 hx hZ hown (host := "") (Or.inl (hw _ (List.mem_of_getElem? (i := 26) rfl))) Via.refl e157 hFn156 (hb hby d3_33) ?_
  intro T158 X158 e158
  refine E.iloadN (q := 37) X158 hx (hb hby d3_36) rfl ?_
  refine E.iloadN (q := 38) X158 hx (hb hby d3_37) rfl ?_
  refine Ends.newAE X158 hx hZ (hw _ (List.mem_of_getElem? (i := 7) rfl)) e158 (hb hby d3_38) (N := 3) rfl (by decide) (by decide) (by decide) (ad := "[I") (by decide) ?_
  intro T159 h159 b159 g159 X159 e159 E159 A159 B159
  have ge_b159 : h0.size ≤ b159 := Nat.le_trans O156.le (Nat.le_of_eq g159.symm)
  have O159 := O156.ext E159
  have V159 : Ary Z h159 b159 .int [(.int (0 : Int32)), (.int (0 : Int32)), (.int (0 : Int32))] := A159
  have f160 := V146.ext E147
  have f161 := f160.keep hO156.1 (ninS (Ne.symm (Nat.ne_of_lt (Nat.lt_of_lt_of_eq E0.lt g146.symm))) nin0)
  have f162 := f161.ext E159
  refine Ends.ast X159 hx hZ e159 f162 B159 (i := 0) rfl (show 0 < 4 from by decide) (hb hby d3_40) ?_
  intro T163 h163 X163 e163 W163 V163
  have V163 : Ar2 Z h163 b146 .int "[I" [(.ref b159), .null, .null, .null] := V163
  have O163 := O159.wr W163 (Or.inr ge_b146)
  refine E.iinc (q := 44) (v := (1 : Int32)) (l' := #[.val (.ref oa), .val (.int (3 : Int32)), .val (.int (1 : Int32)), .val (.int (1 : Int32))]) X163 hx (hb hby d3_41) rfl (by decide) rfl ?_
  refine E.goto (q := 25) X163 hx (hb hby d3_44) ?_
  refine E.iloadN (q := 26) X163 hx (hb hby d3_25) rfl ?_
  refine Ends.getS X163 hx hZ hown (host := "") (Or.inl (hw _ (List.mem_of_getElem? (i := 14) rfl))) Via.refl e163 (own_sta_keep S0 O163.1 (own_ns E0)) (hb hby d3_26) ?_
  intro T164 X164 e164
  refine E.icmpN (q := 32) X164 hx (hb hby d3_29) (XT.ii_ge_f (by decide)) ?_
  refine E.aloadN (q := 33) X164 hx (hb hby d3_32) rfl rfl ?_
  have f165 := hFn156.ext E159
  have f166 := f165.other W163 (Or.inl (Nat.ne_of_lt (Nat.lt_of_lt_of_eq E0.lt g146.symm)))
  refine Ends.getF X164 hx hZ hown (host := "") (Or.inl (hw _ (List.mem_of_getElem? (i := 26) rfl))) Via.refl e164 f166 (hb hby d3_33) ?_
  intro T167 X167 e167
  refine E.iloadN (q := 37) X167 hx (hb hby d3_36) rfl ?_
  refine E.iloadN (q := 38) X167 hx (hb hby d3_37) rfl ?_
  refine Ends.newAE X167 hx hZ (hw _ (List.mem_of_getElem? (i := 7) rfl)) e167 (hb hby d3_38) (N := 3) rfl (by decide) (by decide) (by decide) (ad := "[I") (by decide) ?_
  intro T168 h168 b168 g168 X168 e168 E168 A168 B168
  have ge_b168 : h0.size ≤ b168 := Nat.le_trans O163.le (Nat.le_of_eq g168.symm)
  have O168 := O163.ext E168
  have V168 : Ary Z h168 b168 .int [(.int (0 : Int32)), (.int (0 : Int32)), (.int (0 : Int32))] := A168
  have f169 := V163.ext E168
  refine Ends.ast X168 hx hZ e168 f169 B168 (i := 1) rfl (show 1 < 4 from by decide) (hb hby d3_40) ?_
  intro T170 h170 X170 e170 W170 V170
  have V170 : Ar2 Z h170 b146 .int "[I" [(.ref b159), (.ref b168), .null, .null] := V170
  have O170 := O168.wr W170 (Or.inr ge_b146)
  refine E.iinc (q := 44) (v := (2 : Int32)) (l' := #[.val (.ref oa), .val (.int (3 : Int32)), .val (.int (1 : Int32)), .val (.int (2 : Int32))]) X170 hx (hb hby d3_41) rfl (by decide) rfl ?_
  refine E.goto (q := 25) X170 hx (hb hby d3_44) ?_
  refine E.iloadN (q := 26) X170 hx (hb hby d3_25) rfl ?_
  refine Ends.getS X170 hx hZ hown (host := "") (Or.inl (hw _ (List.mem_of_getElem? (i := 14) rfl))) Via.refl e170 (own_sta_keep S0 O170.1 (own_ns E0)) (hb hby d3_26) ?_
  intro T171 X171 e171
  refine E.icmpN (q := 32) X171 hx (hb hby d3_29) (XT.ii_ge_f (by decide)) ?_
  refine E.aloadN (q := 33) X171 hx (hb hby d3_32) rfl rfl ?_
  have f172 := f166.ext E168
  have f173 := f172.other W170 (Or.inl (Nat.ne_of_lt (Nat.lt_of_lt_of_eq E0.lt g146.symm)))
  refine Ends.getF X171 hx hZ hown (host := "") (Or.inl (hw _ (List.mem_of_getElem? (i := 26) rfl))) Via.refl e171 f173 (hb hby d3_33) ?_
  intro T174 X174 e174
  refine E.iloadN (q := 37) X174 hx (hb hby d3_36) rfl ?_
  refine E.iloadN (q := 38) X174 hx (hb hby d3_37) rfl ?_
  refine Ends.newAE X174 hx hZ (hw _ (List.mem_of_getElem? (i := 7) rfl)) e174 (hb hby d3_38) (N := 3) rfl (by decide) (by decide) (by decide) (ad := "[I") (by decide) ?_
  intro T175 h175 b175 g175 X175 e175 E175 A175 B175
  have ge_b175 : h0.size ≤ b175 := Nat.le_trans O170.le (Nat.le_of_eq g175.symm)
  have O175 := O170.ext E175
  have V175 : Ary Z h175 b175 .int [(.int (0 : Int32)), (.int (0 : Int32)), (.int (0 : Int32))] := A175
  have f176 := V170.ext E175
  refine Ends.ast X175 hx hZ e175 f176 B175 (i := 2) rfl (show 2 < 4 from by decide) (hb hby d3_40) ?_
  intro T177 h177 X177 e177 W177 V177
  have V177 : Ar2 Z h177 b146 .int "[I" [(.ref b159), (.ref b168), (.ref b175), .null] := V177
  have O177 := O175.wr W177 (Or.inr ge_b146)
  refine E.iinc (q := 44) (v := (3 : Int32)) (l' := #[.val (.ref oa), .val (.int (3 : Int32)), .val (.int (1 : Int32)), .val (.int (3 : Int32))]) X177 hx (hb hby d3_41) rfl (by decide) rfl ?_
  refine E.goto (q := 25) X177 hx (hb hby d3_44) ?_
  refine E.iloadN (q := 26) X177 hx (hb hby d3_25) rfl ?_
  refine Ends.getS X177 hx hZ hown (host := "") (Or.inl (hw _ (List.mem_of_getElem? (i := 14) rfl))) Via.refl e177 (own_sta_keep S0 O177.1 (own_ns E0)) (hb hby d3_26) ?_
  intro T178 X178 e178
  refine E.icmpN (q := 32) X178 hx (hb hby d3_29) (XT.ii_ge_f (by decide)) ?_
  refine E.aloadN (q := 33) X178 hx (hb hby d3_32) rfl rfl ?_
  have f179 := f173.ext E175
  have f180 := f179.other W177 (Or.inl (Nat.ne_of_lt (Nat.lt_of_lt_of_eq E0.lt g146.symm)))
  refine Ends.getF X178 hx hZ hown (host := "") (Or.inl (hw _ (List.mem_of_getElem? (i := 26) rfl))) Via.refl e178 f180 (hb hby d3_33) ?_
  intro T181 X181 e181
  refine E.iloadN (q := 37) X181 hx (hb hby d3_36) rfl ?_
  refine E.iloadN (q := 38) X181 hx (hb hby d3_37) rfl ?_
  refine Ends.newAE X181 hx hZ (hw _ (List.mem_of_getElem? (i := 7) rfl)) e181 (hb hby d3_38) (N := 3) rfl (by decide) (by decide) (by decide) (ad := "[I") (by decide) ?_
  intro T182 h182 b182 g182 X182 e182 E182 A182 B182
  have ge_b182 : h0.size ≤ b182 := Nat.le_trans O177.le (Nat.le_of_eq g182.symm)
  have O182 := O177.ext E182
  have V182 : Ary Z h182 b182 .int [(.int (0 : Int32)), (.int (0 : Int32)), (.int (0 : Int32))] := A182
  have f183 := V177.ext E182
  refine Ends.ast X182 hx hZ e182 f183 B182 (i := 3) rfl (show 3 < 4 from by decide) (hb hby d3_40) ?_
  intro T184 h184 X184 e184 W184 V184
  have V184 : Ar2 Z h184 b146 .int "[I" [(.ref b159), (.ref b168), (.ref b175), (.ref b182)] := V184
  have O184 := O182.wr W184 (Or.inr ge_b146)
  refine E.iinc (q := 44) (v := (4 : Int32)) (l' := #[.val (.ref oa), .val (.int (3 : Int32)), .val (.int (1 : Int32)), .val (.int (4 : Int32))]) X184 hx (hb hby d3_41) rfl (by decide) rfl ?_
  refine E.goto (q := 25) X184 hx (hb hby d3_44) ?_
  refine E.iloadN (q := 26) X184 hx (hb hby d3_25) rfl ?_
  refine Ends.getS X184 hx hZ hown (host := "") (Or.inl (hw _ (List.mem_of_getElem? (i := 14) rfl))) Via.refl e184 (own_sta_keep S0 O184.1 (own_ns E0)) (hb hby d3_26) ?_
  intro T185 X185 e185
  refine E.icmpY (q := 47) X185 hx (hb hby d3_29) (XT.ii_ge_t (by decide)) ?_
  refine E.iconst (q := 48) (v := (0 : Int32)) X185 hx (hb hby d3_47) rfl ?_
  refine E.istoreN (q := 49) (l' := #[.val (.ref oa), .val (.int (3 : Int32)), .val (.int (1 : Int32)), .val (.int (0 : Int32))]) X185 hx (hb hby d3_48) rfl ?_
  refine E.iloadN (q := 50) X185 hx (hb hby d3_49) rfl ?_
  refine E.aloadN (q := 51) X185 hx (hb hby d3_50) rfl rfl ?_
  have f186 := hFm156.ext E159
  have f187 := f186.other W163 (Or.inl (Nat.ne_of_lt (Nat.lt_of_lt_of_eq E0.lt g146.symm)))
  have f188 := f187.ext E168
  have f189 := f188.other W170 (Or.inl (Nat.ne_of_lt (Nat.lt_of_lt_of_eq E0.lt g146.symm)))
  have f190 := f189.ext E175
  have f191 := f190.other W177 (Or.inl (Nat.ne_of_lt (Nat.lt_of_lt_of_eq E0.lt g146.symm)))
  have f192 := f191.ext E182
  have f193 := f192.other W184 (Or.inl (Nat.ne_of_lt (Nat.lt_of_lt_of_eq E0.lt g146.symm)))
  refine Ends.getF X185 hx hZ hown (host := "") (Or.inl (hw _ (List.mem_of_getElem? (i := 28) rfl))) Via.refl e185 f193 (hb hby d3_51) ?_
  intro T194 X194 e194
  have f195 := V147.keep hO156.1 (ninS (Ne.symm (Nat.ne_of_lt (Nat.lt_of_lt_of_eq f148.lt g147.symm))) nin0)
  have f196 := f195.ext E159
  have f197 := f196.other W163 (Ne.symm (Nat.ne_of_lt (Nat.lt_of_lt_of_eq V146.lt g147.symm)))
  have f198 := f197.ext E168
  have f199 := f198.other W170 (Ne.symm (Nat.ne_of_lt (Nat.lt_of_lt_of_eq V146.lt g147.symm)))
  have f200 := f199.ext E175
  have f201 := f200.other W177 (Ne.symm (Nat.ne_of_lt (Nat.lt_of_lt_of_eq V146.lt g147.symm)))
  have f202 := f201.ext E182
  have f203 := f202.other W184 (Ne.symm (Nat.ne_of_lt (Nat.lt_of_lt_of_eq V146.lt g147.symm)))
  refine Ends.alen X194 hx hZ e194 f203.ary (hb hby d3_54) (n := (4 : Int32)) rfl ?_
  refine E.icmpN (q := 58) X194 hx (hb hby d3_55) (XT.ii_ge_f (by decide)) ?_
  refine E.aloadN (q := 59) X194 hx (hb hby d3_58) rfl rfl ?_
  refine Ends.getF X194 hx hZ hown (host := "") (Or.inl (hw _ (List.mem_of_getElem? (i := 28) rfl))) Via.refl e194 f193 (hb hby d3_59) ?_
  intro T204 X204 e204
  refine E.iloadN (q := 63) X204 hx (hb hby d3_62) rfl ?_
  refine E.iloadN (q := 64) X204 hx (hb hby d3_63) rfl ?_
  refine Ends.newAE X204 hx hZ (hw _ (List.mem_of_getElem? (i := 33) rfl)) e204 (hb hby d3_64) (N := 3) rfl (by decide) (by decide) (by decide) (ad := "[D") (by decide) ?_
  intro T205 h205 b205 g205 X205 e205 E205 A205 B205
  have ge_b205 : h0.size ≤ b205 := Nat.le_trans O184.le (Nat.le_of_eq g205.symm)
  have O205 := O184.ext E205
  have V205 : Ary Z h205 b205 .double [(.double (0 : UInt64)), (.double (0 : UInt64)), (.double (0 : UInt64))] := A205
  have f206 := f203.ext E205
  refine Ends.ast X205 hx hZ e205 f206 B205 (i := 0) rfl (show 0 < 4 from by decide) (hb hby d3_66) ?_
  intro T207 h207 X207 e207 W207 V207
  have V207 : Ar2 Z h207 b147 .double "[D" [(.ref b205), .null, .null, .null] := V207
  have O207 := O205.wr W207 (Or.inr ge_b147)
  refine E.iinc (q := 70) (v := (1 : Int32)) (l' := #[.val (.ref oa), .val (.int (3 : Int32)), .val (.int (1 : Int32)), .val (.int (1 : Int32))]) X207 hx (hb hby d3_67) rfl (by decide) rfl ?_
  refine E.goto (q := 49) X207 hx (hb hby d3_70) ?_
  refine E.iloadN (q := 50) X207 hx (hb hby d3_49) rfl ?_
  refine E.aloadN (q := 51) X207 hx (hb hby d3_50) rfl rfl ?_
  have f208 := f193.ext E205
  have f209 := f208.other W207 (Or.inl (Nat.ne_of_lt (Nat.lt_of_lt_of_eq f148.lt g147.symm)))
  refine Ends.getF X207 hx hZ hown (host := "") (Or.inl (hw _ (List.mem_of_getElem? (i := 28) rfl))) Via.refl e207 f209 (hb hby d3_51) ?_
  intro T210 X210 e210
  refine Ends.alen X210 hx hZ e210 V207.ary (hb hby d3_54) (n := (4 : Int32)) rfl ?_
  refine E.icmpN (q := 58) X210 hx (hb hby d3_55) (XT.ii_ge_f (by decide)) ?_
  refine E.aloadN (q := 59) X210 hx (hb hby d3_58) rfl rfl ?_
  refine Ends.getF X210 hx hZ hown (host := "") (Or.inl (hw _ (List.mem_of_getElem? (i := 28) rfl))) Via.refl e210 f209 (hb hby d3_59) ?_
  intro T211 X211 e211
  refine E.iloadN (q := 63) X211 hx (hb hby d3_62) rfl ?_
  refine E.iloadN (q := 64) X211 hx (hb hby d3_63) rfl ?_
  refine Ends.newAE X211 hx hZ (hw _ (List.mem_of_getElem? (i := 33) rfl)) e211 (hb hby d3_64) (N := 3) rfl (by decide) (by decide) (by decide) (ad := "[D") (by decide) ?_
  intro T212 h212 b212 g212 X212 e212 E212 A212 B212
  have ge_b212 : h0.size ≤ b212 := Nat.le_trans O207.le (Nat.le_of_eq g212.symm)
  have O212 := O207.ext E212
  have V212 : Ary Z h212 b212 .double [(.double (0 : UInt64)), (.double (0 : UInt64)), (.double (0 : UInt64))] := A212
  have f213 := V207.ext E212
  refine Ends.ast X212 hx hZ e212 f213 B212 (i := 1) rfl (show 1 < 4 from by decide) (hb hby d3_66) ?_
  intro T214 h214 X214 e214 W214 V214
  have V214 : Ar2 Z h214 b147 .double "[D" [(.ref b205), (.ref b212), .null, .null] := V214
  have O214 := O212.wr W214 (Or.inr ge_b147)
  refine E.iinc (q := 70) (v := (2 : Int32)) (l' := #[.val (.ref oa), .val (.int (3 : Int32)), .val (.int (1 : Int32)), .val (.int (2 : Int32))]) X214 hx (hb hby d3_67) rfl (by decide) rfl ?_
  refine E.goto (q := 49) X214 hx (hb hby d3_70) ?_
  refine E.iloadN (q := 50) X214 hx (hb hby d3_49) rfl ?_
  refine E.aloadN (q := 51) X214 hx (hb hby d3_50) rfl rfl ?_
  have f215 := f209.ext E212
  have f216 := f215.other W214 (Or.inl (Nat.ne_of_lt (Nat.lt_of_lt_of_eq f148.lt g147.symm)))
  refine Ends.getF X214 hx hZ hown (host := "") (Or.inl (hw _ (List.mem_of_getElem? (i := 28) rfl))) Via.refl e214 f216 (hb hby d3_51) ?_
  intro T217 X217 e217
  refine Ends.alen X217 hx hZ e217 V214.ary (hb hby d3_54) (n := (4 : Int32)) rfl ?_
  refine E.icmpN (q := 58) X217 hx (hb hby d3_55) (XT.ii_ge_f (by decide)) ?_
  refine E.aloadN (q := 59) X217 hx (hb hby d3_58) rfl rfl ?_
  refine Ends.getF X217 hx hZ hown (host := "") (Or.inl (hw _ (List.mem_of_getElem? (i := 28) rfl))) Via.refl e217 f216 (hb hby d3_59) ?_
  intro T218 X218 e218
  refine E.iloadN (q := 63) X218 hx (hb hby d3_62) rfl ?_
  refine E.iloadN (q := 64) X218 hx (hb hby d3_63) rfl ?_
  refine Ends.newAE X218 hx hZ (hw _ (List.mem_of_getElem? (i := 33) rfl)) e218 (hb hby d3_64) (N := 3) rfl (by decide) (by decide) (by decide) (ad := "[D") (by decide) ?_
  intro T219 h219 b219 g219 X219 e219 E219 A219 B219
  have ge_b219 : h0.size ≤ b219 := Nat.le_trans O214.le (Nat.le_of_eq g219.symm)
  have O219 := O214.ext E219
  have V219 : Ary Z h219 b219 .double [(.double (0 : UInt64)), (.double (0 : UInt64)), (.double (0 : UInt64))] := A219
  have f220 := V214.ext E219
  refine Ends.ast X219 hx hZ e219 f220 B219 (i := 2) rfl (show 2 < 4 from by decide) (hb hby d3_66) ?_
  intro T221 h221 X221 e221 W221 V221
  have V221 : Ar2 Z h221 b147 .double "[D" [(.ref b205), (.ref b212), (.ref b219), .null] := V221
  have O221 := O219.wr W221 (Or.inr ge_b147)
  refine E.iinc (q := 70) (v := (3 : Int32)) (l' := #[.val (.ref oa), .val (.int (3 : Int32)), .val (.int (1 : Int32)), .val (.int (3 : Int32))]) X221 hx (hb hby d3_67) rfl (by decide) rfl ?_
  refine E.goto (q := 49) X221 hx (hb hby d3_70) ?_
  refine E.iloadN (q := 50) X221 hx (hb hby d3_49) rfl ?_
  refine E.aloadN (q := 51) X221 hx (hb hby d3_50) rfl rfl ?_
  have f222 := f216.ext E219
  have f223 := f222.other W221 (Or.inl (Nat.ne_of_lt (Nat.lt_of_lt_of_eq f148.lt g147.symm)))
  refine Ends.getF X221 hx hZ hown (host := "") (Or.inl (hw _ (List.mem_of_getElem? (i := 28) rfl))) Via.refl e221 f223 (hb hby d3_51) ?_
  intro T224 X224 e224
  refine Ends.alen X224 hx hZ e224 V221.ary (hb hby d3_54) (n := (4 : Int32)) rfl ?_
  refine E.icmpN (q := 58) X224 hx (hb hby d3_55) (XT.ii_ge_f (by decide)) ?_
  refine E.aloadN (q := 59) X224 hx (hb hby d3_58) rfl rfl ?_
  refine Ends.getF X224 hx hZ hown (host := "") (Or.inl (hw _ (List.mem_of_getElem? (i := 28) rfl))) Via.refl e224 f223 (hb hby d3_59) ?_
  intro T225 X225 e225
  refine E.iloadN (q := 63) X225 hx (hb hby d3_62) rfl ?_
  refine E.iloadN (q := 64) X225 hx (hb hby d3_63) rfl ?_
  refine Ends.newAE X225 hx hZ (hw _ (List.mem_of_getElem? (i := 33) rfl)) e225 (hb hby d3_64) (N := 3) rfl (by decide) (by decide) (by decide) (ad := "[D") (by decide) ?_
  intro T226 h226 b226 g226 X226 e226 E226 A226 B226
  have ge_b226 : h0.size ≤ b226 := Nat.le_trans O221.le (Nat.le_of_eq g226.symm)
  have O226 := O221.ext E226
  have V226 : Ary Z h226 b226 .double [(.double (0 : UInt64)), (.double (0 : UInt64)), (.double (0 : UInt64))] := A226
  have f227 := V221.ext E226
  refine Ends.ast X226 hx hZ e226 f227 B226 (i := 3) rfl (show 3 < 4 from by decide) (hb hby d3_66) ?_
  intro T228 h228 X228 e228 W228 V228
  have V228 : Ar2 Z h228 b147 .double "[D" [(.ref b205), (.ref b212), (.ref b219), (.ref b226)] := V228
  have O228 := O226.wr W228 (Or.inr ge_b147)
  refine E.iinc (q := 70) (v := (4 : Int32)) (l' := #[.val (.ref oa), .val (.int (3 : Int32)), .val (.int (1 : Int32)), .val (.int (4 : Int32))]) X228 hx (hb hby d3_67) rfl (by decide) rfl ?_
  refine E.goto (q := 49) X228 hx (hb hby d3_70) ?_
  refine E.iloadN (q := 50) X228 hx (hb hby d3_49) rfl ?_
  refine E.aloadN (q := 51) X228 hx (hb hby d3_50) rfl rfl ?_
  have f229 := f223.ext E226
  have f230 := f229.other W228 (Or.inl (Nat.ne_of_lt (Nat.lt_of_lt_of_eq f148.lt g147.symm)))
  refine Ends.getF X228 hx hZ hown (host := "") (Or.inl (hw _ (List.mem_of_getElem? (i := 28) rfl))) Via.refl e228 f230 (hb hby d3_51) ?_
  intro T231 X231 e231
  refine Ends.alen X231 hx hZ e231 V228.ary (hb hby d3_54) (n := (4 : Int32)) rfl ?_
  refine E.icmpY (q := 73) X231 hx (hb hby d3_55) (XT.ii_ge_t (by decide)) ?_
  have f232 := V159.other W163 (Ne.symm (Nat.ne_of_lt (Nat.lt_of_lt_of_eq f161.lt g159.symm)))
  have f233 := V168.other W170 (Ne.symm (Nat.ne_of_lt (Nat.lt_of_lt_of_eq V163.lt g168.symm)))
  have f234 := V175.other W177 (Ne.symm (Nat.ne_of_lt (Nat.lt_of_lt_of_eq V170.lt g175.symm)))
  have f235 := V182.other W184 (Ne.symm (Nat.ne_of_lt (Nat.lt_of_lt_of_eq V177.lt g182.symm)))
  have f236 := V205.other W207 (Ne.symm (Nat.ne_of_lt (Nat.lt_of_lt_of_eq f203.lt g205.symm)))
  have f237 := V212.other W214 (Ne.symm (Nat.ne_of_lt (Nat.lt_of_lt_of_eq V207.lt g212.symm)))
  have f238 := V219.other W221 (Ne.symm (Nat.ne_of_lt (Nat.lt_of_lt_of_eq V214.lt g219.symm)))
  have f239 := f180.ext E182
  have f240 := f239.other W184 (Or.inl (Nat.ne_of_lt (Nat.lt_of_lt_of_eq E0.lt g146.symm)))
  have f241 := f240.ext E205
  have f242 := f241.other W207 (Or.inl (Nat.ne_of_lt (Nat.lt_of_lt_of_eq f148.lt g147.symm)))
  have f243 := f242.ext E212
  have f244 := f243.other W214 (Or.inl (Nat.ne_of_lt (Nat.lt_of_lt_of_eq f148.lt g147.symm)))
  have f245 := f244.ext E219
  have f246 := f245.other W221 (Or.inl (Nat.ne_of_lt (Nat.lt_of_lt_of_eq f148.lt g147.symm)))
  have f247 := f246.ext E226
  have f248 := f247.other W228 (Or.inl (Nat.ne_of_lt (Nat.lt_of_lt_of_eq f148.lt g147.symm)))
  have f249 := hFs156.ext E159
  have f250 := f249.other W163 (Or.inl (Nat.ne_of_lt (Nat.lt_of_lt_of_eq E0.lt g146.symm)))
  have f251 := f250.ext E168
  have f252 := f251.other W170 (Or.inl (Nat.ne_of_lt (Nat.lt_of_lt_of_eq E0.lt g146.symm)))
  have f253 := f252.ext E175
  have f254 := f253.other W177 (Or.inl (Nat.ne_of_lt (Nat.lt_of_lt_of_eq E0.lt g146.symm)))
  have f255 := f254.ext E182
  have f256 := f255.other W184 (Or.inl (Nat.ne_of_lt (Nat.lt_of_lt_of_eq E0.lt g146.symm)))
  have f257 := f256.ext E205
  have f258 := f257.other W207 (Or.inl (Nat.ne_of_lt (Nat.lt_of_lt_of_eq f148.lt g147.symm)))
  have f259 := f258.ext E212
  have f260 := f259.other W214 (Or.inl (Nat.ne_of_lt (Nat.lt_of_lt_of_eq f148.lt g147.symm)))
  have f261 := f260.ext E219
  have f262 := f261.other W221 (Or.inl (Nat.ne_of_lt (Nat.lt_of_lt_of_eq f148.lt g147.symm)))
  have f263 := f262.ext E226
  have f264 := f263.other W228 (Or.inl (Nat.ne_of_lt (Nat.lt_of_lt_of_eq f148.lt g147.symm)))
  have f265 := V184.ext E205
  have f266 := f265.other W207 (Nat.ne_of_lt (Nat.lt_of_lt_of_eq V146.lt g147.symm))
  have f267 := f266.ext E212
  have f268 := f267.other W214 (Nat.ne_of_lt (Nat.lt_of_lt_of_eq V146.lt g147.symm))
  have f269 := f268.ext E219
  have f270 := f269.other W221 (Nat.ne_of_lt (Nat.lt_of_lt_of_eq V146.lt g147.symm))
  have f271 := f270.ext E226
  have f272 := f271.other W228 (Nat.ne_of_lt (Nat.lt_of_lt_of_eq V146.lt g147.symm))
  have f273 := f232.ext E168
  have f274 := f273.other W170 (Ne.symm (Nat.ne_of_lt (Nat.lt_of_lt_of_eq f161.lt g159.symm)))
  have f275 := f274.ext E175
  have f276 := f275.other W177 (Ne.symm (Nat.ne_of_lt (Nat.lt_of_lt_of_eq f161.lt g159.symm)))
  have f277 := f276.ext E182
  have f278 := f277.other W184 (Ne.symm (Nat.ne_of_lt (Nat.lt_of_lt_of_eq f161.lt g159.symm)))
  have f279 := f278.ext E205
  have f280 := f279.other W207 (Ne.symm (Nat.ne_of_lt (Nat.lt_of_lt_of_eq f195.lt g159.symm)))
  have f281 := f280.ext E212
  have f282 := f281.other W214 (Ne.symm (Nat.ne_of_lt (Nat.lt_of_lt_of_eq f195.lt g159.symm)))
  have f283 := f282.ext E219
  have f284 := f283.other W221 (Ne.symm (Nat.ne_of_lt (Nat.lt_of_lt_of_eq f195.lt g159.symm)))
  have f285 := f284.ext E226
  have f286 := f285.other W228 (Ne.symm (Nat.ne_of_lt (Nat.lt_of_lt_of_eq f195.lt g159.symm)))
  have f287 := f233.ext E175
  have f288 := f287.other W177 (Ne.symm (Nat.ne_of_lt (Nat.lt_of_lt_of_eq V163.lt g168.symm)))
  have f289 := f288.ext E182
  have f290 := f289.other W184 (Ne.symm (Nat.ne_of_lt (Nat.lt_of_lt_of_eq V163.lt g168.symm)))
  have f291 := f290.ext E205
  have f292 := f291.other W207 (Ne.symm (Nat.ne_of_lt (Nat.lt_of_lt_of_eq f197.lt g168.symm)))
  have f293 := f292.ext E212
  have f294 := f293.other W214 (Ne.symm (Nat.ne_of_lt (Nat.lt_of_lt_of_eq f197.lt g168.symm)))
  have f295 := f294.ext E219
  have f296 := f295.other W221 (Ne.symm (Nat.ne_of_lt (Nat.lt_of_lt_of_eq f197.lt g168.symm)))
  have f297 := f296.ext E226
  have f298 := f297.other W228 (Ne.symm (Nat.ne_of_lt (Nat.lt_of_lt_of_eq f197.lt g168.symm)))
  have f299 := f234.ext E182
  have f300 := f299.other W184 (Ne.symm (Nat.ne_of_lt (Nat.lt_of_lt_of_eq V170.lt g175.symm)))
  have f301 := f300.ext E205
  have f302 := f301.other W207 (Ne.symm (Nat.ne_of_lt (Nat.lt_of_lt_of_eq f199.lt g175.symm)))
  have f303 := f302.ext E212
  have f304 := f303.other W214 (Ne.symm (Nat.ne_of_lt (Nat.lt_of_lt_of_eq f199.lt g175.symm)))
  have f305 := f304.ext E219
  have f306 := f305.other W221 (Ne.symm (Nat.ne_of_lt (Nat.lt_of_lt_of_eq f199.lt g175.symm)))
  have f307 := f306.ext E226
  have f308 := f307.other W228 (Ne.symm (Nat.ne_of_lt (Nat.lt_of_lt_of_eq f199.lt g175.symm)))
  have f309 := f235.ext E205
  have f310 := f309.other W207 (Ne.symm (Nat.ne_of_lt (Nat.lt_of_lt_of_eq f201.lt g182.symm)))
  have f311 := f310.ext E212
  have f312 := f311.other W214 (Ne.symm (Nat.ne_of_lt (Nat.lt_of_lt_of_eq f201.lt g182.symm)))
  have f313 := f312.ext E219
  have f314 := f313.other W221 (Ne.symm (Nat.ne_of_lt (Nat.lt_of_lt_of_eq f201.lt g182.symm)))
  have f315 := f314.ext E226
  have f316 := f315.other W228 (Ne.symm (Nat.ne_of_lt (Nat.lt_of_lt_of_eq f201.lt g182.symm)))
  have f317 := f236.ext E212
  have f318 := f317.other W214 (Ne.symm (Nat.ne_of_lt (Nat.lt_of_lt_of_eq f203.lt g205.symm)))
  have f319 := f318.ext E219
  have f320 := f319.other W221 (Ne.symm (Nat.ne_of_lt (Nat.lt_of_lt_of_eq f203.lt g205.symm)))
  have f321 := f320.ext E226
  have f322 := f321.other W228 (Ne.symm (Nat.ne_of_lt (Nat.lt_of_lt_of_eq f203.lt g205.symm)))
  have f323 := f237.ext E219
  have f324 := f323.other W221 (Ne.symm (Nat.ne_of_lt (Nat.lt_of_lt_of_eq V207.lt g212.symm)))
  have f325 := f324.ext E226
  have f326 := f325.other W228 (Ne.symm (Nat.ne_of_lt (Nat.lt_of_lt_of_eq V207.lt g212.symm)))
  have f327 := f238.ext E226
  have f328 := f327.other W228 (Ne.symm (Nat.ne_of_lt (Nat.lt_of_lt_of_eq V214.lt g219.symm)))
  have f329 := V226.other W228 (Ne.symm (Nat.ne_of_lt (Nat.lt_of_lt_of_eq V221.lt g226.symm)))
  subst e231
  exact Ends.retV X231 hx hlk hret (hb hby d3_73) (by decide) (by decide) ⟨rfl, b146, b147, b159, b168, b175, b182, b205, b212, b219, b226, O228, ⟨(Nat.lt_of_lt_of_eq E0.lt g146.symm), (Nat.lt_of_lt_of_eq V146.lt g147.symm), (Nat.lt_of_lt_of_eq f195.lt g159.symm), (Nat.lt_of_lt_of_eq f232.lt g168.symm), (Nat.lt_of_lt_of_eq f233.lt g175.symm), (Nat.lt_of_lt_of_eq f234.lt g182.symm), (Nat.lt_of_lt_of_eq f235.lt g205.symm), (Nat.lt_of_lt_of_eq f236.lt g212.symm), (Nat.lt_of_lt_of_eq f237.lt g219.symm), (Nat.lt_of_lt_of_eq f238.lt g226.symm)⟩, ge_b146, f248, f230, f264, f272.ary, V228.ary, f286, f298, f308, f316, f322, f326, f328, f329⟩
theorem efL0 (m : MethodId) (x0 : Addr) (x1 : Int32) (x2 : Int32) (x3 : Int32) (x4 : UInt64) (x5 : UInt64) : entryFrame m #[(.ref x0), (.int x1), (.int x2), (.int x3), (.double x4), (.double x5)] 8 = mkF m 0 #[.val (.ref x0), .val (.int x1), .val (.int x2), .val (.int x3), .val (.double x4), .second, .val (.double x5), .second] [] := by first | (simp [entryFrame, mkF, argsToLocals, Value.category]; done) | rfl
set_option maxRecDepth 65536 in
set_option maxHeartbeats 40000000 in
theorem rmL0 (l : Launch) (Z : State) (a0 : Array Value) (hw : ∀ d ∈ tables_1, d.before a0 Z = true) (oa : Addr) (pf pt : Int32) (pS pE : UInt64) (nA mA n0 n1 n2 n3 m0 m1 : Addr) (rm : List Value) (x00 x01 x02 x10 x11 x12 x20 x21 x22 x30 x31 x32 y00 y01 y02 y10 y11 y12 y20 y21 y22 y30 y31 y32 : Value) (h0 : Heap) (ch : oa < nA ∧ nA < mA ∧ mA < n0 ∧ n0 < n1 ∧ n1 < n2 ∧ n2 < n3 ∧ n3 < m0 ∧ m0 < m1) (E0 : Exa Z h0 oa "com/example/hourline/hourline/network/EdgeValues") (F_n : Fld Z h0 oa "com/example/hourline/hourline/network/EdgeValues" "numbers" "[[I" (.ref nA)) (F_m : Fld Z h0 oa "com/example/hourline/hourline/network/EdgeValues" "measures" "[[D" (.ref mA)) (A_n : Ary Z h0 nA (.array .int) [.ref n0, .ref n1, .ref n2, .ref n3]) (A_m : Ary Z h0 mA (.array .double) (.ref m0 :: .ref m1 :: rm)) (A_n0 : Ary Z h0 n0 .int [x00, x01, x02]) (A_n1 : Ary Z h0 n1 .int [x10, x11, x12]) (A_m0 : Ary Z h0 m0 .double [y00, y01, y02]) (A_m1 : Ary Z h0 m1 .double [y10, y11, y12]) :
    Con l (⟨"com/example/hourline/hourline/network/EdgeValues", "place", "(IIIDD)V"⟩ : MethodName) prog_101_method_16_code 8 none [] ({ frames := 0, cells := 0, slots := 0, locals := 0 } : Room) #[(.ref oa), (.int (0 : Int32)), (.int pf), (.int pt), (.double pS), (.double pE)] Z h0 (fun v h L => v = none ∧ Ok h0 h [n0, n1, m0, m1] L ∧ Ary Z h n0 .int [(.int pf), x01, x02] ∧ Ary Z h n1 .int [(.int pt), x11, x12] ∧ Ary Z h m0 .double [(.double pS), y01, y02] ∧ Ary Z h m1 .double [(.double pE), y11, y12]) := by
  refine Con.of (plainFor_of_name pn_1) ?_
  intro p e s m below meth c s₁ hx hZ hby hml hown hnm hret hlk X0 e0
  refine Ends.cast (efL0 m oa (0 : Int32) pf pt pS pE) ?_
  show Ends p e below s _ _ _ s₁ (mkF m 0 #[.val (.ref oa), .val (.int (0 : Int32)), .val (.int pf), .val (.int pt), .val (.double pS), .second, .val (.double pE), .second] [])
  have O0 := Ok.refl h0 [n0, n1, m0, m1]
  obtain ⟨q0, q1, q2, q3, q4, q5, q6, q7⟩ := id ch
  refine E.aloadN (q := 1) X0 hx (hb hby d8_0) rfl rfl ?_
  refine Ends.getF X0 hx hZ hown (host := "") (Or.inl (hw _ (List.mem_of_getElem? (i := 26) rfl))) Via.refl e0 F_n (hb hby d8_1) ?_
  intro T330 X330 e330
  refine E.iconst (q := 5) (v := (0 : Int32)) X330 hx (hb hby d8_4) rfl ?_
  refine Ends.ald X330 hx hZ e330 A_n rfl (i := 0) rfl rfl (hb hby d8_5) ?_
  refine E.iloadN (q := 7) X330 hx (hb hby d8_6) rfl ?_
  refine E.iloadN (q := 8) X330 hx (hb hby d8_7) rfl ?_
  refine Ends.ist X330 hx hZ e330 A_n0 (i := 0) rfl (show 0 < 3 from by decide) (hb hby d8_8) ?_
  intro T331 h331 X331 e331 W331 V331
  have V331 : Ary Z h331 n0 .int [(.int pf), x01, x02] := V331
  have O331 := O0.wr W331 (Or.inl (List.mem_of_getElem? (i := 0) rfl))
  refine E.aloadN (q := 10) X331 hx (hb hby d8_9) rfl rfl ?_
  have f332 := F_n.other W331 (Or.inl (Nat.ne_of_lt (Nat.lt_trans q0 (Nat.lt_trans q1 q2))))
  refine Ends.getF X331 hx hZ hown (host := "") (Or.inl (hw _ (List.mem_of_getElem? (i := 26) rfl))) Via.refl e331 f332 (hb hby d8_10) ?_
  intro T333 X333 e333
  refine E.iconst (q := 14) (v := (1 : Int32)) X333 hx (hb hby d8_13) rfl ?_
  have f334 := A_n.other W331 (Nat.ne_of_lt (Nat.lt_trans q1 q2))
  refine Ends.ald X333 hx hZ e333 f334 rfl (i := 1) rfl rfl (hb hby d8_14) ?_
  refine E.iloadN (q := 16) X333 hx (hb hby d8_15) rfl ?_
  refine E.iloadN (q := 17) X333 hx (hb hby d8_16) rfl ?_
  have f335 := A_n1.other W331 (Ne.symm (Nat.ne_of_lt q3))
  refine Ends.ist X333 hx hZ e333 f335 (i := 0) rfl (show 0 < 3 from by decide) (hb hby d8_17) ?_
  intro T336 h336 X336 e336 W336 V336
  have V336 : Ary Z h336 n1 .int [(.int pt), x11, x12] := V336
  have O336 := O331.wr W336 (Or.inl (List.mem_of_getElem? (i := 1) rfl))
  refine E.aloadN (q := 19) X336 hx (hb hby d8_18) rfl rfl ?_
  have f337 := F_m.other W331 (Or.inl (Nat.ne_of_lt (Nat.lt_trans q0 (Nat.lt_trans q1 q2))))
  have f338 := f337.other W336 (Or.inl (Nat.ne_of_lt (Nat.lt_trans q0 (Nat.lt_trans q1 (Nat.lt_trans q2 q3)))))
  refine Ends.getF X336 hx hZ hown (host := "") (Or.inl (hw _ (List.mem_of_getElem? (i := 28) rfl))) Via.refl e336 f338 (hb hby d8_19) ?_
  intro T339 X339 e339
  refine E.iconst (q := 23) (v := (0 : Int32)) X339 hx (hb hby d8_22) rfl ?_
  have f340 := A_m.other W331 (Nat.ne_of_lt q2)
  have f341 := f340.other W336 (Nat.ne_of_lt (Nat.lt_trans q2 q3))
  refine Ends.ald X339 hx hZ e339 f341 rfl (i := 0) rfl rfl (hb hby d8_23) ?_
  refine E.iloadN (q := 25) X339 hx (hb hby d8_24) rfl ?_
  refine E.dload (q := 27) X339 hx (hb hby d8_25) rfl ?_
  have f342 := A_m0.other W331 (Ne.symm (Nat.ne_of_lt (Nat.lt_trans q3 (Nat.lt_trans q4 (Nat.lt_trans q5 q6)))))
  have f343 := f342.other W336 (Ne.symm (Nat.ne_of_lt (Nat.lt_trans q4 (Nat.lt_trans q5 q6))))
  refine Ends.dst X339 hx hZ e339 f343 (i := 0) rfl (show 0 < 3 from by decide) (hb hby d8_27) ?_
  intro T344 h344 X344 e344 W344 V344
  have V344 : Ary Z h344 m0 .double [(.double pS), y01, y02] := V344
  have O344 := O336.wr W344 (Or.inl (List.mem_of_getElem? (i := 2) rfl))
  refine E.aloadN (q := 29) X344 hx (hb hby d8_28) rfl rfl ?_
  have f345 := f338.other W344 (Or.inl (Nat.ne_of_lt (Nat.lt_trans q0 (Nat.lt_trans q1 (Nat.lt_trans q2 (Nat.lt_trans q3 (Nat.lt_trans q4 (Nat.lt_trans q5 q6))))))))
  refine Ends.getF X344 hx hZ hown (host := "") (Or.inl (hw _ (List.mem_of_getElem? (i := 28) rfl))) Via.refl e344 f345 (hb hby d8_29) ?_
  intro T346 X346 e346
  refine E.iconst (q := 33) (v := (1 : Int32)) X346 hx (hb hby d8_32) rfl ?_
  have f347 := f341.other W344 (Nat.ne_of_lt (Nat.lt_trans q2 (Nat.lt_trans q3 (Nat.lt_trans q4 (Nat.lt_trans q5 q6)))))
  refine Ends.ald X346 hx hZ e346 f347 rfl (i := 1) rfl rfl (hb hby d8_33) ?_
  refine E.iloadN (q := 35) X346 hx (hb hby d8_34) rfl ?_
  refine E.dload (q := 37) X346 hx (hb hby d8_35) rfl ?_
  have f348 := A_m1.other W331 (Ne.symm (Nat.ne_of_lt (Nat.lt_trans q3 (Nat.lt_trans q4 (Nat.lt_trans q5 (Nat.lt_trans q6 q7))))))
  have f349 := f348.other W336 (Ne.symm (Nat.ne_of_lt (Nat.lt_trans q4 (Nat.lt_trans q5 (Nat.lt_trans q6 q7)))))
  have f350 := f349.other W344 (Ne.symm (Nat.ne_of_lt q7))
  refine Ends.dst X346 hx hZ e346 f350 (i := 0) rfl (show 0 < 3 from by decide) (hb hby d8_37) ?_
  intro T351 h351 X351 e351 W351 V351
  have V351 : Ary Z h351 m1 .double [(.double pE), y11, y12] := V351
  have O351 := O344.wr W351 (Or.inl (List.mem_of_getElem? (i := 3) rfl))
  have f352 := V331.other W336 (Nat.ne_of_lt q3)
  have f353 := f352.other W344 (Nat.ne_of_lt (Nat.lt_trans q3 (Nat.lt_trans q4 (Nat.lt_trans q5 q6))))
  have f354 := f353.other W351 (Nat.ne_of_lt (Nat.lt_trans q3 (Nat.lt_trans q4 (Nat.lt_trans q5 (Nat.lt_trans q6 q7)))))
  have f355 := V336.other W344 (Nat.ne_of_lt (Nat.lt_trans q4 (Nat.lt_trans q5 q6)))
  have f356 := f355.other W351 (Nat.ne_of_lt (Nat.lt_trans q4 (Nat.lt_trans q5 (Nat.lt_trans q6 q7))))
  have f357 := V344.other W351 (Nat.ne_of_lt q7)
  subst e351
  exact Ends.retV X351 hx hlk hret (hb hby d8_38) (by decide) (by decide) ⟨rfl, O351, f354, f356, f357, V351⟩
theorem efL1 (m : MethodId) (x0 : Addr) (x1 : Int32) (x2 : Int32) (x3 : Int32) (x4 : UInt64) (x5 : UInt64) : entryFrame m #[(.ref x0), (.int x1), (.int x2), (.int x3), (.double x4), (.double x5)] 8 = mkF m 0 #[.val (.ref x0), .val (.int x1), .val (.int x2), .val (.int x3), .val (.double x4), .second, .val (.double x5), .second] [] := by first | (simp [entryFrame, mkF, argsToLocals, Value.category]; done) | rfl
set_option maxRecDepth 65536 in
set_option maxHeartbeats 40000000 in
theorem rmL1 (l : Launch) (Z : State) (a0 : Array Value) (hw : ∀ d ∈ tables_1, d.before a0 Z = true) (oa : Addr) (pf pt : Int32) (pS pE : UInt64) (nA mA n0 n1 n2 n3 m0 m1 : Addr) (rm : List Value) (x00 x01 x02 x10 x11 x12 x20 x21 x22 x30 x31 x32 y00 y01 y02 y10 y11 y12 y20 y21 y22 y30 y31 y32 : Value) (h0 : Heap) (ch : oa < nA ∧ nA < mA ∧ mA < n0 ∧ n0 < n1 ∧ n1 < n2 ∧ n2 < n3 ∧ n3 < m0 ∧ m0 < m1) (E0 : Exa Z h0 oa "com/example/hourline/hourline/network/EdgeValues") (F_n : Fld Z h0 oa "com/example/hourline/hourline/network/EdgeValues" "numbers" "[[I" (.ref nA)) (F_m : Fld Z h0 oa "com/example/hourline/hourline/network/EdgeValues" "measures" "[[D" (.ref mA)) (A_n : Ary Z h0 nA (.array .int) [.ref n0, .ref n1, .ref n2, .ref n3]) (A_m : Ary Z h0 mA (.array .double) (.ref m0 :: .ref m1 :: rm)) (A_n0 : Ary Z h0 n0 .int [x00, x01, x02]) (A_n1 : Ary Z h0 n1 .int [x10, x11, x12]) (A_m0 : Ary Z h0 m0 .double [y00, y01, y02]) (A_m1 : Ary Z h0 m1 .double [y10, y11, y12]) :
    Con l (⟨"com/example/hourline/hourline/network/EdgeValues", "place", "(IIIDD)V"⟩ : MethodName) prog_101_method_16_code 8 none [] ({ frames := 0, cells := 0, slots := 0, locals := 0 } : Room) #[(.ref oa), (.int (1 : Int32)), (.int pf), (.int pt), (.double pS), (.double pE)] Z h0 (fun v h L => v = none ∧ Ok h0 h [n0, n1, m0, m1] L ∧ Ary Z h n0 .int [x00, (.int pf), x02] ∧ Ary Z h n1 .int [x10, (.int pt), x12] ∧ Ary Z h m0 .double [y00, (.double pS), y02] ∧ Ary Z h m1 .double [y10, (.double pE), y12]) := by
  refine Con.of (plainFor_of_name pn_1) ?_
  intro p e s m below meth c s₁ hx hZ hby hml hown hnm hret hlk X0 e0
  refine Ends.cast (efL1 m oa (1 : Int32) pf pt pS pE) ?_
  show Ends p e below s _ _ _ s₁ (mkF m 0 #[.val (.ref oa), .val (.int (1 : Int32)), .val (.int pf), .val (.int pt), .val (.double pS), .second, .val (.double pE), .second] [])
  have O0 := Ok.refl h0 [n0, n1, m0, m1]
  obtain ⟨q0, q1, q2, q3, q4, q5, q6, q7⟩ := id ch
  refine E.aloadN (q := 1) X0 hx (hb hby d8_0) rfl rfl ?_
  refine Ends.getF X0 hx hZ hown (host := "") (Or.inl (hw _ (List.mem_of_getElem? (i := 26) rfl))) Via.refl e0 F_n (hb hby d8_1) ?_
  intro T358 X358 e358
  refine E.iconst (q := 5) (v := (0 : Int32)) X358 hx (hb hby d8_4) rfl ?_
  refine Ends.ald X358 hx hZ e358 A_n rfl (i := 0) rfl rfl (hb hby d8_5) ?_
  refine E.iloadN (q := 7) X358 hx (hb hby d8_6) rfl ?_
  refine E.iloadN (q := 8) X358 hx (hb hby d8_7) rfl ?_
  refine Ends.ist X358 hx hZ e358 A_n0 (i := 1) rfl (show 1 < 3 from by decide) (hb hby d8_8) ?_
  intro T359 h359 X359 e359 W359 V359
  have V359 : Ary Z h359 n0 .int [x00, (.int pf), x02] := V359
  have O359 := O0.wr W359 (Or.inl (List.mem_of_getElem? (i := 0) rfl))
  refine E.aloadN (q := 10) X359 hx (hb hby d8_9) rfl rfl ?_
  have f360 := F_n.other W359 (Or.inl (Nat.ne_of_lt (Nat.lt_trans q0 (Nat.lt_trans q1 q2))))
  refine Ends.getF X359 hx hZ hown (host := "") (Or.inl (hw _ (List.mem_of_getElem? (i := 26) rfl))) Via.refl e359 f360 (hb hby d8_10) ?_
  intro T361 X361 e361
  refine E.iconst (q := 14) (v := (1 : Int32)) X361 hx (hb hby d8_13) rfl ?_
  have f362 := A_n.other W359 (Nat.ne_of_lt (Nat.lt_trans q1 q2))
  refine Ends.ald X361 hx hZ e361 f362 rfl (i := 1) rfl rfl (hb hby d8_14) ?_
  refine E.iloadN (q := 16) X361 hx (hb hby d8_15) rfl ?_
  refine E.iloadN (q := 17) X361 hx (hb hby d8_16) rfl ?_
  have f363 := A_n1.other W359 (Ne.symm (Nat.ne_of_lt q3))
  refine Ends.ist X361 hx hZ e361 f363 (i := 1) rfl (show 1 < 3 from by decide) (hb hby d8_17) ?_
  intro T364 h364 X364 e364 W364 V364
  have V364 : Ary Z h364 n1 .int [x10, (.int pt), x12] := V364
  have O364 := O359.wr W364 (Or.inl (List.mem_of_getElem? (i := 1) rfl))
  refine E.aloadN (q := 19) X364 hx (hb hby d8_18) rfl rfl ?_
  have f365 := F_m.other W359 (Or.inl (Nat.ne_of_lt (Nat.lt_trans q0 (Nat.lt_trans q1 q2))))
  have f366 := f365.other W364 (Or.inl (Nat.ne_of_lt (Nat.lt_trans q0 (Nat.lt_trans q1 (Nat.lt_trans q2 q3)))))
  refine Ends.getF X364 hx hZ hown (host := "") (Or.inl (hw _ (List.mem_of_getElem? (i := 28) rfl))) Via.refl e364 f366 (hb hby d8_19) ?_
  intro T367 X367 e367
  refine E.iconst (q := 23) (v := (0 : Int32)) X367 hx (hb hby d8_22) rfl ?_
  have f368 := A_m.other W359 (Nat.ne_of_lt q2)
  have f369 := f368.other W364 (Nat.ne_of_lt (Nat.lt_trans q2 q3))
  refine Ends.ald X367 hx hZ e367 f369 rfl (i := 0) rfl rfl (hb hby d8_23) ?_
  refine E.iloadN (q := 25) X367 hx (hb hby d8_24) rfl ?_
  refine E.dload (q := 27) X367 hx (hb hby d8_25) rfl ?_
  have f370 := A_m0.other W359 (Ne.symm (Nat.ne_of_lt (Nat.lt_trans q3 (Nat.lt_trans q4 (Nat.lt_trans q5 q6)))))
  have f371 := f370.other W364 (Ne.symm (Nat.ne_of_lt (Nat.lt_trans q4 (Nat.lt_trans q5 q6))))
  refine Ends.dst X367 hx hZ e367 f371 (i := 1) rfl (show 1 < 3 from by decide) (hb hby d8_27) ?_
  intro T372 h372 X372 e372 W372 V372
  have V372 : Ary Z h372 m0 .double [y00, (.double pS), y02] := V372
  have O372 := O364.wr W372 (Or.inl (List.mem_of_getElem? (i := 2) rfl))
  refine E.aloadN (q := 29) X372 hx (hb hby d8_28) rfl rfl ?_
  have f373 := f366.other W372 (Or.inl (Nat.ne_of_lt (Nat.lt_trans q0 (Nat.lt_trans q1 (Nat.lt_trans q2 (Nat.lt_trans q3 (Nat.lt_trans q4 (Nat.lt_trans q5 q6))))))))
  refine Ends.getF X372 hx hZ hown (host := "") (Or.inl (hw _ (List.mem_of_getElem? (i := 28) rfl))) Via.refl e372 f373 (hb hby d8_29) ?_
  intro T374 X374 e374
  refine E.iconst (q := 33) (v := (1 : Int32)) X374 hx (hb hby d8_32) rfl ?_
  have f375 := f369.other W372 (Nat.ne_of_lt (Nat.lt_trans q2 (Nat.lt_trans q3 (Nat.lt_trans q4 (Nat.lt_trans q5 q6)))))
  refine Ends.ald X374 hx hZ e374 f375 rfl (i := 1) rfl rfl (hb hby d8_33) ?_
  refine E.iloadN (q := 35) X374 hx (hb hby d8_34) rfl ?_
  refine E.dload (q := 37) X374 hx (hb hby d8_35) rfl ?_
  have f376 := A_m1.other W359 (Ne.symm (Nat.ne_of_lt (Nat.lt_trans q3 (Nat.lt_trans q4 (Nat.lt_trans q5 (Nat.lt_trans q6 q7))))))
  have f377 := f376.other W364 (Ne.symm (Nat.ne_of_lt (Nat.lt_trans q4 (Nat.lt_trans q5 (Nat.lt_trans q6 q7)))))
  have f378 := f377.other W372 (Ne.symm (Nat.ne_of_lt q7))
  refine Ends.dst X374 hx hZ e374 f378 (i := 1) rfl (show 1 < 3 from by decide) (hb hby d8_37) ?_
  intro T379 h379 X379 e379 W379 V379
  have V379 : Ary Z h379 m1 .double [y10, (.double pE), y12] := V379
  have O379 := O372.wr W379 (Or.inl (List.mem_of_getElem? (i := 3) rfl))
  have f380 := V359.other W364 (Nat.ne_of_lt q3)
  have f381 := f380.other W372 (Nat.ne_of_lt (Nat.lt_trans q3 (Nat.lt_trans q4 (Nat.lt_trans q5 q6))))
  have f382 := f381.other W379 (Nat.ne_of_lt (Nat.lt_trans q3 (Nat.lt_trans q4 (Nat.lt_trans q5 (Nat.lt_trans q6 q7)))))
  have f383 := V364.other W372 (Nat.ne_of_lt (Nat.lt_trans q4 (Nat.lt_trans q5 q6)))
  have f384 := f383.other W379 (Nat.ne_of_lt (Nat.lt_trans q4 (Nat.lt_trans q5 (Nat.lt_trans q6 q7))))
  have f385 := V372.other W379 (Nat.ne_of_lt q7)
  subst e379
  exact Ends.retV X379 hx hlk hret (hb hby d8_38) (by decide) (by decide) ⟨rfl, O379, f382, f384, f385, V379⟩
theorem efA0 (m : MethodId) (x0 : Addr) (x1 : Int32) (x2 : Int32) (x3 : Int32) (x4 : Int32) (x5 : UInt64) (x6 : UInt64) : entryFrame m #[(.ref x0), (.int x1), (.int x2), (.int x3), (.int x4), (.double x5), (.double x6)] 9 = mkF m 0 #[.val (.ref x0), .val (.int x1), .val (.int x2), .val (.int x3), .val (.int x4), .val (.double x5), .second, .val (.double x6), .second] [] := by first | (simp [entryFrame, mkF, argsToLocals, Value.category]; done) | rfl
set_option maxRecDepth 65536 in
set_option maxHeartbeats 40000000 in
theorem rmA0 (l : Launch) (Z : State) (a0 : Array Value) (hw : ∀ d ∈ tables_1, d.before a0 Z = true) (oa : Addr) (pf pt pw pr : Int32) (pS pE : UInt64) (nA mA n0 n1 n2 n3 m0 m1 : Addr) (rm : List Value) (x00 x01 x02 x10 x11 x12 x20 x21 x22 x30 x31 x32 y00 y01 y02 y10 y11 y12 y20 y21 y22 y30 y31 y32 : Value) (h0 : Heap) (ch : oa < nA ∧ nA < mA ∧ mA < n0 ∧ n0 < n1 ∧ n1 < n2 ∧ n2 < n3 ∧ n3 < m0 ∧ m0 < m1) (E0 : Exa Z h0 oa "com/example/hourline/hourline/network/EdgeValues") (F_n : Fld Z h0 oa "com/example/hourline/hourline/network/EdgeValues" "numbers" "[[I" (.ref nA)) (F_m : Fld Z h0 oa "com/example/hourline/hourline/network/EdgeValues" "measures" "[[D" (.ref mA)) (A_n : Ary Z h0 nA (.array .int) [.ref n0, .ref n1, .ref n2, .ref n3]) (A_m : Ary Z h0 mA (.array .double) (.ref m0 :: .ref m1 :: rm)) (F_s : Fld Z h0 oa "com/example/hourline/hourline/network/EdgeValues" "size" "I" (.int (0 : Int32))) (A_n0 : Ary Z h0 n0 .int [x00, x01, x02]) (A_n1 : Ary Z h0 n1 .int [x10, x11, x12]) (A_n2 : Ary Z h0 n2 .int [x20, x21, x22]) (A_n3 : Ary Z h0 n3 .int [x30, x31, x32]) (A_m0 : Ary Z h0 m0 .double [y00, y01, y02]) (A_m1 : Ary Z h0 m1 .double [y10, y11, y12]) :
    Con l (⟨"com/example/hourline/hourline/network/EdgeValues", "add", "(IIIIDD)I"⟩ : MethodName) prog_101_method_14_code 9 (some .int) [] ({ frames := 1, cells := 0, slots := 0, locals := 24 } : Room) #[(.ref oa), (.int pf), (.int pt), (.int pw), (.int pr), (.double pS), (.double pE)] Z h0 (fun v h L => (∃ z, v = some (.int z)) ∧ Ok h0 h [oa, n0, n1, n2, n3, m0, m1] L ∧ Fld Z h oa "com/example/hourline/hourline/network/EdgeValues" "size" "I" (.int (1 : Int32)) ∧ Fld Z h oa "com/example/hourline/hourline/network/EdgeValues" "numbers" "[[I" (.ref nA) ∧ Fld Z h oa "com/example/hourline/hourline/network/EdgeValues" "measures" "[[D" (.ref mA) ∧ Ary Z h n0 .int [(.int pf), x01, x02] ∧ Ary Z h n1 .int [(.int pt), x11, x12] ∧ Ary Z h n2 .int [(.int pw), x21, x22] ∧ Ary Z h n3 .int [(.int pr), x31, x32] ∧ Ary Z h m0 .double [(.double pS), y01, y02] ∧ Ary Z h m1 .double [(.double pE), y11, y12]) := by
  refine Con.of (plainFor_of_name pn_1) ?_
  intro p e s m below meth c s₁ hx hZ hby hml hown hnm hret hlk X0 e0
  refine Ends.cast (efA0 m oa pf pt pw pr pS pE) ?_
  show Ends p e below s _ _ _ s₁ (mkF m 0 #[.val (.ref oa), .val (.int pf), .val (.int pt), .val (.int pw), .val (.int pr), .val (.double pS), .second, .val (.double pE), .second] [])
  have O0 := Ok.refl h0 [oa, n0, n1, n2, n3, m0, m1]
  obtain ⟨q0, q1, q2, q3, q4, q5, q6, q7⟩ := id ch
  refine E.aloadN (q := 1) X0 hx (hb hby d7_0) rfl rfl ?_
  refine Ends.getF X0 hx hZ hown (host := "") (Or.inl (hw _ (List.mem_of_getElem? (i := 26) rfl))) Via.refl e0 F_n (hb hby d7_1) ?_
  intro T386 X386 e386
  refine E.iconst (q := 5) (v := (2 : Int32)) X386 hx (hb hby d7_4) rfl ?_
  refine Ends.ald X386 hx hZ e386 A_n rfl (i := 2) rfl rfl (hb hby d7_5) ?_
  refine E.aloadN (q := 7) X386 hx (hb hby d7_6) rfl rfl ?_
  refine Ends.getF X386 hx hZ hown (host := "") (Or.inl (hw _ (List.mem_of_getElem? (i := 30) rfl))) Via.refl e386 F_s (hb hby d7_7) ?_
  intro T387 X387 e387
  refine E.iloadN (q := 11) X387 hx (hb hby d7_10) rfl ?_
  refine Ends.ist X387 hx hZ e387 A_n2 (i := 0) rfl (show 0 < 3 from by decide) (hb hby d7_11) ?_
  intro T388 h388 X388 e388 W388 V388
  have V388 : Ary Z h388 n2 .int [(.int pw), x21, x22] := V388
  have O388 := O0.wr W388 (Or.inl (List.mem_of_getElem? (i := 3) rfl))
  refine E.aloadN (q := 13) X388 hx (hb hby d7_12) rfl rfl ?_
  have f389 := F_n.other W388 (Or.inl (Nat.ne_of_lt (Nat.lt_trans q0 (Nat.lt_trans q1 (Nat.lt_trans q2 (Nat.lt_trans q3 q4))))))
  refine Ends.getF X388 hx hZ hown (host := "") (Or.inl (hw _ (List.mem_of_getElem? (i := 26) rfl))) Via.refl e388 f389 (hb hby d7_13) ?_
  intro T390 X390 e390
  refine E.iconst (q := 17) (v := (3 : Int32)) X390 hx (hb hby d7_16) rfl ?_
  have f391 := A_n.other W388 (Nat.ne_of_lt (Nat.lt_trans q1 (Nat.lt_trans q2 (Nat.lt_trans q3 q4))))
  refine Ends.ald X390 hx hZ e390 f391 rfl (i := 3) rfl rfl (hb hby d7_17) ?_
  refine E.aloadN (q := 19) X390 hx (hb hby d7_18) rfl rfl ?_
  have f392 := F_s.other W388 (Or.inl (Nat.ne_of_lt (Nat.lt_trans q0 (Nat.lt_trans q1 (Nat.lt_trans q2 (Nat.lt_trans q3 q4))))))
  refine Ends.getF X390 hx hZ hown (host := "") (Or.inl (hw _ (List.mem_of_getElem? (i := 30) rfl))) Via.refl e390 f392 (hb hby d7_19) ?_
  intro T393 X393 e393
  refine E.iload (q := 24) X393 hx (hb hby d7_22) rfl ?_
  have f394 := A_n3.other W388 (Ne.symm (Nat.ne_of_lt q5))
  refine Ends.ist X393 hx hZ e393 f394 (i := 0) rfl (show 0 < 3 from by decide) (hb hby d7_24) ?_
  intro T395 h395 X395 e395 W395 V395
  have V395 : Ary Z h395 n3 .int [(.int pr), x31, x32] := V395
  have O395 := O388.wr W395 (Or.inl (List.mem_of_getElem? (i := 4) rfl))
  refine E.aloadN (q := 26) X395 hx (hb hby d7_25) rfl rfl ?_
  refine E.aloadN (q := 27) X395 hx (hb hby d7_26) rfl rfl ?_
  have f396 := f392.other W395 (Or.inl (Nat.ne_of_lt (Nat.lt_trans q0 (Nat.lt_trans q1 (Nat.lt_trans q2 (Nat.lt_trans q3 (Nat.lt_trans q4 q5)))))))
  refine Ends.getF X395 hx hZ hown (host := "") (Or.inl (hw _ (List.mem_of_getElem? (i := 30) rfl))) Via.refl e395 f396 (hb hby d7_27) ?_
  intro T397 X397 e397
  refine E.iloadN (q := 31) X397 hx (hb hby d7_30) rfl ?_
  refine E.iloadN (q := 32) X397 hx (hb hby d7_31) rfl ?_
  refine E.dload (q := 34) X397 hx (hb hby d7_32) rfl ?_
  refine E.dload (q := 36) X397 hx (hb hby d7_34) rfl ?_
  have f398 := E0.wr W388
  have f399 := f398.wr W395
  have f400 := f389.other W395 (Or.inl (Nat.ne_of_lt (Nat.lt_trans q0 (Nat.lt_trans q1 (Nat.lt_trans q2 (Nat.lt_trans q3 (Nat.lt_trans q4 q5)))))))
  have f401 := F_m.other W388 (Or.inl (Nat.ne_of_lt (Nat.lt_trans q0 (Nat.lt_trans q1 (Nat.lt_trans q2 (Nat.lt_trans q3 q4))))))
  have f402 := f401.other W395 (Or.inl (Nat.ne_of_lt (Nat.lt_trans q0 (Nat.lt_trans q1 (Nat.lt_trans q2 (Nat.lt_trans q3 (Nat.lt_trans q4 q5)))))))
  have f403 := f391.other W395 (Nat.ne_of_lt (Nat.lt_trans q1 (Nat.lt_trans q2 (Nat.lt_trans q3 (Nat.lt_trans q4 q5)))))
  have f404 := A_m.other W388 (Nat.ne_of_lt (Nat.lt_trans q2 (Nat.lt_trans q3 q4)))
  have f405 := f404.other W395 (Nat.ne_of_lt (Nat.lt_trans q2 (Nat.lt_trans q3 (Nat.lt_trans q4 q5))))
  have f406 := A_n0.other W388 (Nat.ne_of_lt (Nat.lt_trans q3 q4))
  have f407 := f406.other W395 (Nat.ne_of_lt (Nat.lt_trans q3 (Nat.lt_trans q4 q5)))
  have f408 := A_n1.other W388 (Nat.ne_of_lt q4)
  have f409 := f408.other W395 (Nat.ne_of_lt (Nat.lt_trans q4 q5))
  have f410 := A_m0.other W388 (Ne.symm (Nat.ne_of_lt (Nat.lt_trans q5 q6)))
  have f411 := f410.other W395 (Ne.symm (Nat.ne_of_lt q6))
  have f412 := A_m1.other W388 (Ne.symm (Nat.ne_of_lt (Nat.lt_trans q5 (Nat.lt_trans q6 q7))))
  have f413 := f412.other W395 (Ne.symm (Nat.ne_of_lt (Nat.lt_trans q6 q7)))
  refine Ends.callV X397 hx hZ hown (hw _ (List.mem_of_getElem? (i := 45) rfl)) (hw _ (List.mem_of_getElem? (i := 46) rfl)) (hw _ (List.mem_of_getElem? (i := 48) rfl)) (hw _ (List.mem_of_getElem? (i := 47) rfl)) (hw _ (List.mem_of_getElem? (i := 10) rfl)) (hw _ (List.mem_of_getElem? (i := 49) rfl)) (by decide) (argsL := [(.int (0 : Int32)), (.int pf), (.int pt), (.double pS), (.double pE)]) (rest := []) e397 f399 (rmL0 l Z a0 hw oa pf pt pS pE nA mA n0 n1 n2 n3 m0 m1 rm x00 x01 x02 x10 x11 x12 x20 x21 x22 x30 x31 x32 y00 y01 y02 y10 y11 y12 y20 y21 y22 y30 y31 y32 h395 ch f399 f400 f402 f403 f405 f407 f409 f411 f413) (W := 0) (by decide) (by decide) (by rw [hml]; rfl) (lenOf pd_1 rfl) (Nat.le_of_eq rfl) (hb hby d7_36) (by decide) (by decide) rfl ?_
  rintro T414 v414 L414 X414 ⟨rfl, hO414, hn0414, hn1414, hm0414, hm1414⟩
  have e414 : T414.heap = T414.heap := rfl
  have O414 := O395.call hO414 (allS (Or.inl (List.mem_of_getElem? (i := 1) rfl)) (allS (Or.inl (List.mem_of_getElem? (i := 2) rfl)) (allS (Or.inl (List.mem_of_getElem? (i := 5) rfl)) (allS (Or.inl (List.mem_of_getElem? (i := 6) rfl)) all0))))
  show Ends p e below s _ _ _ T414 (mkF m 39 #[.val (.ref oa), .val (.int pf), .val (.int pt), .val (.int pw), .val (.int pr), .val (.double pS), .second, .val (.double pE), .second] [])
  refine E.aloadN (q := 40) X414 hx (hb hby d7_39) rfl rfl ?_
  refine E.dup (q := 41) X414 hx (hb hby d7_40) rfl ?_
  have f415 := f396.keep hO414.1 (ninS (Nat.ne_of_lt (Nat.lt_trans q0 (Nat.lt_trans q1 q2))) (ninS (Nat.ne_of_lt (Nat.lt_trans q0 (Nat.lt_trans q1 (Nat.lt_trans q2 q3)))) (ninS (Nat.ne_of_lt (Nat.lt_trans q0 (Nat.lt_trans q1 (Nat.lt_trans q2 (Nat.lt_trans q3 (Nat.lt_trans q4 (Nat.lt_trans q5 q6))))))) (ninS (Nat.ne_of_lt (Nat.lt_trans q0 (Nat.lt_trans q1 (Nat.lt_trans q2 (Nat.lt_trans q3 (Nat.lt_trans q4 (Nat.lt_trans q5 (Nat.lt_trans q6 q7)))))))) nin0))))
  refine Ends.getF X414 hx hZ hown (host := "") (Or.inl (hw _ (List.mem_of_getElem? (i := 30) rfl))) Via.refl e414 f415 (hb hby d7_41) ?_
  intro T416 X416 e416
  refine E.dupX1 (q := 45) X416 hx (hb hby d7_44) rfl rfl ?_
  refine E.iconst (q := 46) (v := (1 : Int32)) X416 hx (hb hby d7_45) rfl ?_
  refine E.iadd (q := 47) X416 hx (hb hby d7_46) ?_
  rw [show ((0 : Int32) + (1 : Int32)) = (1 : Int32) from by decide]
  have f417 := f399.keep hO414.1
  refine Ends.putF X416 hx hZ hown (host := "") (Or.inl (hw _ (List.mem_of_getElem? (i := 30) rfl))) Via.refl e416 f415 f417 (Or.inl (hw _ (List.mem_of_getElem? (i := 31) rfl))) (hw _ (List.mem_of_getElem? (i := 9) rfl)) (ty := .int) (by decide) rfl rfl (hb hby d7_47) ?_
  intro T418 h418 X418 e418 W418 Fw418
  have O418 := O414.wr W418 (Or.inl (List.mem_of_getElem? (i := 0) rfl))
  have f419 := f400.keep hO414.1 (ninS (Nat.ne_of_lt (Nat.lt_trans q0 (Nat.lt_trans q1 q2))) (ninS (Nat.ne_of_lt (Nat.lt_trans q0 (Nat.lt_trans q1 (Nat.lt_trans q2 q3)))) (ninS (Nat.ne_of_lt (Nat.lt_trans q0 (Nat.lt_trans q1 (Nat.lt_trans q2 (Nat.lt_trans q3 (Nat.lt_trans q4 (Nat.lt_trans q5 q6))))))) (ninS (Nat.ne_of_lt (Nat.lt_trans q0 (Nat.lt_trans q1 (Nat.lt_trans q2 (Nat.lt_trans q3 (Nat.lt_trans q4 (Nat.lt_trans q5 (Nat.lt_trans q6 q7)))))))) nin0))))
  have f420 := f419.other W418 (Or.inr (slot_ne (Or.inr (hw _ (List.mem_of_getElem? (i := 27) rfl))) (Or.inl (hw _ (List.mem_of_getElem? (i := 31) rfl))) (by decide) (t := (.array (.array .int))) (t' := .int) (by decide) (by decide)))
  have f421 := f402.keep hO414.1 (ninS (Nat.ne_of_lt (Nat.lt_trans q0 (Nat.lt_trans q1 q2))) (ninS (Nat.ne_of_lt (Nat.lt_trans q0 (Nat.lt_trans q1 (Nat.lt_trans q2 q3)))) (ninS (Nat.ne_of_lt (Nat.lt_trans q0 (Nat.lt_trans q1 (Nat.lt_trans q2 (Nat.lt_trans q3 (Nat.lt_trans q4 (Nat.lt_trans q5 q6))))))) (ninS (Nat.ne_of_lt (Nat.lt_trans q0 (Nat.lt_trans q1 (Nat.lt_trans q2 (Nat.lt_trans q3 (Nat.lt_trans q4 (Nat.lt_trans q5 (Nat.lt_trans q6 q7)))))))) nin0))))
  have f422 := f421.other W418 (Or.inr (slot_ne (Or.inr (hw _ (List.mem_of_getElem? (i := 29) rfl))) (Or.inl (hw _ (List.mem_of_getElem? (i := 31) rfl))) (by decide) (t := (.array (.array .double))) (t' := .int) (by decide) (by decide)))
  have f423 := hn0414.other W418 (Ne.symm (Nat.ne_of_lt (Nat.lt_trans q0 (Nat.lt_trans q1 q2))))
  have f424 := hn1414.other W418 (Ne.symm (Nat.ne_of_lt (Nat.lt_trans q0 (Nat.lt_trans q1 (Nat.lt_trans q2 q3)))))
  have f425 := V388.other W395 (Nat.ne_of_lt q5)
  have f426 := f425.keep hO414.1 (ninS (Ne.symm (Nat.ne_of_lt (Nat.lt_trans q3 q4))) (ninS (Ne.symm (Nat.ne_of_lt q4)) (ninS (Nat.ne_of_lt (Nat.lt_trans q5 q6)) (ninS (Nat.ne_of_lt (Nat.lt_trans q5 (Nat.lt_trans q6 q7))) nin0))))
  have f427 := f426.other W418 (Ne.symm (Nat.ne_of_lt (Nat.lt_trans q0 (Nat.lt_trans q1 (Nat.lt_trans q2 (Nat.lt_trans q3 q4))))))
  have f428 := V395.keep hO414.1 (ninS (Ne.symm (Nat.ne_of_lt (Nat.lt_trans q3 (Nat.lt_trans q4 q5)))) (ninS (Ne.symm (Nat.ne_of_lt (Nat.lt_trans q4 q5))) (ninS (Nat.ne_of_lt q6) (ninS (Nat.ne_of_lt (Nat.lt_trans q6 q7)) nin0))))
  have f429 := f428.other W418 (Ne.symm (Nat.ne_of_lt (Nat.lt_trans q0 (Nat.lt_trans q1 (Nat.lt_trans q2 (Nat.lt_trans q3 (Nat.lt_trans q4 q5)))))))
  have f430 := hm0414.other W418 (Ne.symm (Nat.ne_of_lt (Nat.lt_trans q0 (Nat.lt_trans q1 (Nat.lt_trans q2 (Nat.lt_trans q3 (Nat.lt_trans q4 (Nat.lt_trans q5 q6))))))))
  have f431 := hm1414.other W418 (Ne.symm (Nat.ne_of_lt (Nat.lt_trans q0 (Nat.lt_trans q1 (Nat.lt_trans q2 (Nat.lt_trans q3 (Nat.lt_trans q4 (Nat.lt_trans q5 (Nat.lt_trans q6 q7)))))))))
  subst e418
  exact Ends.retI X418 hx hlk hret (hb hby d7_50) (by decide) (by decide) ⟨⟨_, rfl⟩, O418, Fw418, f420, f422, f423, f424, f427, f429, f430, f431⟩
theorem efA1 (m : MethodId) (x0 : Addr) (x1 : Int32) (x2 : Int32) (x3 : Int32) (x4 : Int32) (x5 : UInt64) (x6 : UInt64) : entryFrame m #[(.ref x0), (.int x1), (.int x2), (.int x3), (.int x4), (.double x5), (.double x6)] 9 = mkF m 0 #[.val (.ref x0), .val (.int x1), .val (.int x2), .val (.int x3), .val (.int x4), .val (.double x5), .second, .val (.double x6), .second] [] := by first | (simp [entryFrame, mkF, argsToLocals, Value.category]; done) | rfl
set_option maxRecDepth 65536 in
set_option maxHeartbeats 40000000 in
theorem rmA1 (l : Launch) (Z : State) (a0 : Array Value) (hw : ∀ d ∈ tables_1, d.before a0 Z = true) (oa : Addr) (pf pt pw pr : Int32) (pS pE : UInt64) (nA mA n0 n1 n2 n3 m0 m1 : Addr) (rm : List Value) (x00 x01 x02 x10 x11 x12 x20 x21 x22 x30 x31 x32 y00 y01 y02 y10 y11 y12 y20 y21 y22 y30 y31 y32 : Value) (h0 : Heap) (ch : oa < nA ∧ nA < mA ∧ mA < n0 ∧ n0 < n1 ∧ n1 < n2 ∧ n2 < n3 ∧ n3 < m0 ∧ m0 < m1) (E0 : Exa Z h0 oa "com/example/hourline/hourline/network/EdgeValues") (F_n : Fld Z h0 oa "com/example/hourline/hourline/network/EdgeValues" "numbers" "[[I" (.ref nA)) (F_m : Fld Z h0 oa "com/example/hourline/hourline/network/EdgeValues" "measures" "[[D" (.ref mA)) (A_n : Ary Z h0 nA (.array .int) [.ref n0, .ref n1, .ref n2, .ref n3]) (A_m : Ary Z h0 mA (.array .double) (.ref m0 :: .ref m1 :: rm)) (F_s : Fld Z h0 oa "com/example/hourline/hourline/network/EdgeValues" "size" "I" (.int (1 : Int32))) (A_n0 : Ary Z h0 n0 .int [x00, x01, x02]) (A_n1 : Ary Z h0 n1 .int [x10, x11, x12]) (A_n2 : Ary Z h0 n2 .int [x20, x21, x22]) (A_n3 : Ary Z h0 n3 .int [x30, x31, x32]) (A_m0 : Ary Z h0 m0 .double [y00, y01, y02]) (A_m1 : Ary Z h0 m1 .double [y10, y11, y12]) :
    Con l (⟨"com/example/hourline/hourline/network/EdgeValues", "add", "(IIIIDD)I"⟩ : MethodName) prog_101_method_14_code 9 (some .int) [] ({ frames := 1, cells := 0, slots := 0, locals := 24 } : Room) #[(.ref oa), (.int pf), (.int pt), (.int pw), (.int pr), (.double pS), (.double pE)] Z h0 (fun v h L => (∃ z, v = some (.int z)) ∧ Ok h0 h [oa, n0, n1, n2, n3, m0, m1] L ∧ Fld Z h oa "com/example/hourline/hourline/network/EdgeValues" "size" "I" (.int (2 : Int32)) ∧ Fld Z h oa "com/example/hourline/hourline/network/EdgeValues" "numbers" "[[I" (.ref nA) ∧ Fld Z h oa "com/example/hourline/hourline/network/EdgeValues" "measures" "[[D" (.ref mA) ∧ Ary Z h n0 .int [x00, (.int pf), x02] ∧ Ary Z h n1 .int [x10, (.int pt), x12] ∧ Ary Z h n2 .int [x20, (.int pw), x22] ∧ Ary Z h n3 .int [x30, (.int pr), x32] ∧ Ary Z h m0 .double [y00, (.double pS), y02] ∧ Ary Z h m1 .double [y10, (.double pE), y12]) := by
  refine Con.of (plainFor_of_name pn_1) ?_
  intro p e s m below meth c s₁ hx hZ hby hml hown hnm hret hlk X0 e0
  refine Ends.cast (efA1 m oa pf pt pw pr pS pE) ?_
  show Ends p e below s _ _ _ s₁ (mkF m 0 #[.val (.ref oa), .val (.int pf), .val (.int pt), .val (.int pw), .val (.int pr), .val (.double pS), .second, .val (.double pE), .second] [])
  have O0 := Ok.refl h0 [oa, n0, n1, n2, n3, m0, m1]
  obtain ⟨q0, q1, q2, q3, q4, q5, q6, q7⟩ := id ch
  refine E.aloadN (q := 1) X0 hx (hb hby d7_0) rfl rfl ?_
  refine Ends.getF X0 hx hZ hown (host := "") (Or.inl (hw _ (List.mem_of_getElem? (i := 26) rfl))) Via.refl e0 F_n (hb hby d7_1) ?_
  intro T432 X432 e432
  refine E.iconst (q := 5) (v := (2 : Int32)) X432 hx (hb hby d7_4) rfl ?_
  refine Ends.ald X432 hx hZ e432 A_n rfl (i := 2) rfl rfl (hb hby d7_5) ?_
  refine E.aloadN (q := 7) X432 hx (hb hby d7_6) rfl rfl ?_
  refine Ends.getF X432 hx hZ hown (host := "") (Or.inl (hw _ (List.mem_of_getElem? (i := 30) rfl))) Via.refl e432 F_s (hb hby d7_7) ?_
  intro T433 X433 e433
  refine E.iloadN (q := 11) X433 hx (hb hby d7_10) rfl ?_
  refine Ends.ist X433 hx hZ e433 A_n2 (i := 1) rfl (show 1 < 3 from by decide) (hb hby d7_11) ?_
  intro T434 h434 X434 e434 W434 V434
  have V434 : Ary Z h434 n2 .int [x20, (.int pw), x22] := V434
  have O434 := O0.wr W434 (Or.inl (List.mem_of_getElem? (i := 3) rfl))
  refine E.aloadN (q := 13) X434 hx (hb hby d7_12) rfl rfl ?_
  have f435 := F_n.other W434 (Or.inl (Nat.ne_of_lt (Nat.lt_trans q0 (Nat.lt_trans q1 (Nat.lt_trans q2 (Nat.lt_trans q3 q4))))))
  refine Ends.getF X434 hx hZ hown (host := "") (Or.inl (hw _ (List.mem_of_getElem? (i := 26) rfl))) Via.refl e434 f435 (hb hby d7_13) ?_
  intro T436 X436 e436
  refine E.iconst (q := 17) (v := (3 : Int32)) X436 hx (hb hby d7_16) rfl ?_
  have f437 := A_n.other W434 (Nat.ne_of_lt (Nat.lt_trans q1 (Nat.lt_trans q2 (Nat.lt_trans q3 q4))))
  refine Ends.ald X436 hx hZ e436 f437 rfl (i := 3) rfl rfl (hb hby d7_17) ?_
  refine E.aloadN (q := 19) X436 hx (hb hby d7_18) rfl rfl ?_
  have f438 := F_s.other W434 (Or.inl (Nat.ne_of_lt (Nat.lt_trans q0 (Nat.lt_trans q1 (Nat.lt_trans q2 (Nat.lt_trans q3 q4))))))
  refine Ends.getF X436 hx hZ hown (host := "") (Or.inl (hw _ (List.mem_of_getElem? (i := 30) rfl))) Via.refl e436 f438 (hb hby d7_19) ?_
  intro T439 X439 e439
  refine E.iload (q := 24) X439 hx (hb hby d7_22) rfl ?_
  have f440 := A_n3.other W434 (Ne.symm (Nat.ne_of_lt q5))
  refine Ends.ist X439 hx hZ e439 f440 (i := 1) rfl (show 1 < 3 from by decide) (hb hby d7_24) ?_
  intro T441 h441 X441 e441 W441 V441
  have V441 : Ary Z h441 n3 .int [x30, (.int pr), x32] := V441
  have O441 := O434.wr W441 (Or.inl (List.mem_of_getElem? (i := 4) rfl))
  refine E.aloadN (q := 26) X441 hx (hb hby d7_25) rfl rfl ?_
  refine E.aloadN (q := 27) X441 hx (hb hby d7_26) rfl rfl ?_
  have f442 := f438.other W441 (Or.inl (Nat.ne_of_lt (Nat.lt_trans q0 (Nat.lt_trans q1 (Nat.lt_trans q2 (Nat.lt_trans q3 (Nat.lt_trans q4 q5)))))))
  refine Ends.getF X441 hx hZ hown (host := "") (Or.inl (hw _ (List.mem_of_getElem? (i := 30) rfl))) Via.refl e441 f442 (hb hby d7_27) ?_
  intro T443 X443 e443
  refine E.iloadN (q := 31) X443 hx (hb hby d7_30) rfl ?_
  refine E.iloadN (q := 32) X443 hx (hb hby d7_31) rfl ?_
  refine E.dload (q := 34) X443 hx (hb hby d7_32) rfl ?_
  refine E.dload (q := 36) X443 hx (hb hby d7_34) rfl ?_
  have f444 := E0.wr W434
  have f445 := f444.wr W441
  have f446 := f435.other W441 (Or.inl (Nat.ne_of_lt (Nat.lt_trans q0 (Nat.lt_trans q1 (Nat.lt_trans q2 (Nat.lt_trans q3 (Nat.lt_trans q4 q5)))))))
  have f447 := F_m.other W434 (Or.inl (Nat.ne_of_lt (Nat.lt_trans q0 (Nat.lt_trans q1 (Nat.lt_trans q2 (Nat.lt_trans q3 q4))))))
  have f448 := f447.other W441 (Or.inl (Nat.ne_of_lt (Nat.lt_trans q0 (Nat.lt_trans q1 (Nat.lt_trans q2 (Nat.lt_trans q3 (Nat.lt_trans q4 q5)))))))
  have f449 := f437.other W441 (Nat.ne_of_lt (Nat.lt_trans q1 (Nat.lt_trans q2 (Nat.lt_trans q3 (Nat.lt_trans q4 q5)))))
  have f450 := A_m.other W434 (Nat.ne_of_lt (Nat.lt_trans q2 (Nat.lt_trans q3 q4)))
  have f451 := f450.other W441 (Nat.ne_of_lt (Nat.lt_trans q2 (Nat.lt_trans q3 (Nat.lt_trans q4 q5))))
  have f452 := A_n0.other W434 (Nat.ne_of_lt (Nat.lt_trans q3 q4))
  have f453 := f452.other W441 (Nat.ne_of_lt (Nat.lt_trans q3 (Nat.lt_trans q4 q5)))
  have f454 := A_n1.other W434 (Nat.ne_of_lt q4)
  have f455 := f454.other W441 (Nat.ne_of_lt (Nat.lt_trans q4 q5))
  have f456 := A_m0.other W434 (Ne.symm (Nat.ne_of_lt (Nat.lt_trans q5 q6)))
  have f457 := f456.other W441 (Ne.symm (Nat.ne_of_lt q6))
  have f458 := A_m1.other W434 (Ne.symm (Nat.ne_of_lt (Nat.lt_trans q5 (Nat.lt_trans q6 q7))))
  have f459 := f458.other W441 (Ne.symm (Nat.ne_of_lt (Nat.lt_trans q6 q7)))
  refine Ends.callV X443 hx hZ hown (hw _ (List.mem_of_getElem? (i := 45) rfl)) (hw _ (List.mem_of_getElem? (i := 46) rfl)) (hw _ (List.mem_of_getElem? (i := 48) rfl)) (hw _ (List.mem_of_getElem? (i := 47) rfl)) (hw _ (List.mem_of_getElem? (i := 10) rfl)) (hw _ (List.mem_of_getElem? (i := 49) rfl)) (by decide) (argsL := [(.int (1 : Int32)), (.int pf), (.int pt), (.double pS), (.double pE)]) (rest := []) e443 f445 (rmL1 l Z a0 hw oa pf pt pS pE nA mA n0 n1 n2 n3 m0 m1 rm x00 x01 x02 x10 x11 x12 x20 x21 x22 x30 x31 x32 y00 y01 y02 y10 y11 y12 y20 y21 y22 y30 y31 y32 h441 ch f445 f446 f448 f449 f451 f453 f455 f457 f459) (W := 0) (by decide) (by decide) (by rw [hml]; rfl) (lenOf pd_1 rfl) (Nat.le_of_eq rfl) (hb hby d7_36) (by decide) (by decide) rfl ?_
  rintro T460 v460 L460 X460 ⟨rfl, hO460, hn0460, hn1460, hm0460, hm1460⟩
  have e460 : T460.heap = T460.heap := rfl
  have O460 := O441.call hO460 (allS (Or.inl (List.mem_of_getElem? (i := 1) rfl)) (allS (Or.inl (List.mem_of_getElem? (i := 2) rfl)) (allS (Or.inl (List.mem_of_getElem? (i := 5) rfl)) (allS (Or.inl (List.mem_of_getElem? (i := 6) rfl)) all0))))
  show Ends p e below s _ _ _ T460 (mkF m 39 #[.val (.ref oa), .val (.int pf), .val (.int pt), .val (.int pw), .val (.int pr), .val (.double pS), .second, .val (.double pE), .second] [])
  refine E.aloadN (q := 40) X460 hx (hb hby d7_39) rfl rfl ?_
  refine E.dup (q := 41) X460 hx (hb hby d7_40) rfl ?_
  have f461 := f442.keep hO460.1 (ninS (Nat.ne_of_lt (Nat.lt_trans q0 (Nat.lt_trans q1 q2))) (ninS (Nat.ne_of_lt (Nat.lt_trans q0 (Nat.lt_trans q1 (Nat.lt_trans q2 q3)))) (ninS (Nat.ne_of_lt (Nat.lt_trans q0 (Nat.lt_trans q1 (Nat.lt_trans q2 (Nat.lt_trans q3 (Nat.lt_trans q4 (Nat.lt_trans q5 q6))))))) (ninS (Nat.ne_of_lt (Nat.lt_trans q0 (Nat.lt_trans q1 (Nat.lt_trans q2 (Nat.lt_trans q3 (Nat.lt_trans q4 (Nat.lt_trans q5 (Nat.lt_trans q6 q7)))))))) nin0))))
  refine Ends.getF X460 hx hZ hown (host := "") (Or.inl (hw _ (List.mem_of_getElem? (i := 30) rfl))) Via.refl e460 f461 (hb hby d7_41) ?_
  intro T462 X462 e462
  refine E.dupX1 (q := 45) X462 hx (hb hby d7_44) rfl rfl ?_
  refine E.iconst (q := 46) (v := (1 : Int32)) X462 hx (hb hby d7_45) rfl ?_
  refine E.iadd (q := 47) X462 hx (hb hby d7_46) ?_
  rw [show ((1 : Int32) + (1 : Int32)) = (2 : Int32) from by decide]
  have f463 := f445.keep hO460.1
  refine Ends.putF X462 hx hZ hown (host := "") (Or.inl (hw _ (List.mem_of_getElem? (i := 30) rfl))) Via.refl e462 f461 f463 (Or.inl (hw _ (List.mem_of_getElem? (i := 31) rfl))) (hw _ (List.mem_of_getElem? (i := 9) rfl)) (ty := .int) (by decide) rfl rfl (hb hby d7_47) ?_
  intro T464 h464 X464 e464 W464 Fw464
  have O464 := O460.wr W464 (Or.inl (List.mem_of_getElem? (i := 0) rfl))
  have f465 := f446.keep hO460.1 (ninS (Nat.ne_of_lt (Nat.lt_trans q0 (Nat.lt_trans q1 q2))) (ninS (Nat.ne_of_lt (Nat.lt_trans q0 (Nat.lt_trans q1 (Nat.lt_trans q2 q3)))) (ninS (Nat.ne_of_lt (Nat.lt_trans q0 (Nat.lt_trans q1 (Nat.lt_trans q2 (Nat.lt_trans q3 (Nat.lt_trans q4 (Nat.lt_trans q5 q6))))))) (ninS (Nat.ne_of_lt (Nat.lt_trans q0 (Nat.lt_trans q1 (Nat.lt_trans q2 (Nat.lt_trans q3 (Nat.lt_trans q4 (Nat.lt_trans q5 (Nat.lt_trans q6 q7)))))))) nin0))))
  have f466 := f465.other W464 (Or.inr (slot_ne (Or.inr (hw _ (List.mem_of_getElem? (i := 27) rfl))) (Or.inl (hw _ (List.mem_of_getElem? (i := 31) rfl))) (by decide) (t := (.array (.array .int))) (t' := .int) (by decide) (by decide)))
  have f467 := f448.keep hO460.1 (ninS (Nat.ne_of_lt (Nat.lt_trans q0 (Nat.lt_trans q1 q2))) (ninS (Nat.ne_of_lt (Nat.lt_trans q0 (Nat.lt_trans q1 (Nat.lt_trans q2 q3)))) (ninS (Nat.ne_of_lt (Nat.lt_trans q0 (Nat.lt_trans q1 (Nat.lt_trans q2 (Nat.lt_trans q3 (Nat.lt_trans q4 (Nat.lt_trans q5 q6))))))) (ninS (Nat.ne_of_lt (Nat.lt_trans q0 (Nat.lt_trans q1 (Nat.lt_trans q2 (Nat.lt_trans q3 (Nat.lt_trans q4 (Nat.lt_trans q5 (Nat.lt_trans q6 q7)))))))) nin0))))
  have f468 := f467.other W464 (Or.inr (slot_ne (Or.inr (hw _ (List.mem_of_getElem? (i := 29) rfl))) (Or.inl (hw _ (List.mem_of_getElem? (i := 31) rfl))) (by decide) (t := (.array (.array .double))) (t' := .int) (by decide) (by decide)))
  have f469 := hn0460.other W464 (Ne.symm (Nat.ne_of_lt (Nat.lt_trans q0 (Nat.lt_trans q1 q2))))
  have f470 := hn1460.other W464 (Ne.symm (Nat.ne_of_lt (Nat.lt_trans q0 (Nat.lt_trans q1 (Nat.lt_trans q2 q3)))))
  have f471 := V434.other W441 (Nat.ne_of_lt q5)
  have f472 := f471.keep hO460.1 (ninS (Ne.symm (Nat.ne_of_lt (Nat.lt_trans q3 q4))) (ninS (Ne.symm (Nat.ne_of_lt q4)) (ninS (Nat.ne_of_lt (Nat.lt_trans q5 q6)) (ninS (Nat.ne_of_lt (Nat.lt_trans q5 (Nat.lt_trans q6 q7))) nin0))))
  have f473 := f472.other W464 (Ne.symm (Nat.ne_of_lt (Nat.lt_trans q0 (Nat.lt_trans q1 (Nat.lt_trans q2 (Nat.lt_trans q3 q4))))))
  have f474 := V441.keep hO460.1 (ninS (Ne.symm (Nat.ne_of_lt (Nat.lt_trans q3 (Nat.lt_trans q4 q5)))) (ninS (Ne.symm (Nat.ne_of_lt (Nat.lt_trans q4 q5))) (ninS (Nat.ne_of_lt q6) (ninS (Nat.ne_of_lt (Nat.lt_trans q6 q7)) nin0))))
  have f475 := f474.other W464 (Ne.symm (Nat.ne_of_lt (Nat.lt_trans q0 (Nat.lt_trans q1 (Nat.lt_trans q2 (Nat.lt_trans q3 (Nat.lt_trans q4 q5)))))))
  have f476 := hm0460.other W464 (Ne.symm (Nat.ne_of_lt (Nat.lt_trans q0 (Nat.lt_trans q1 (Nat.lt_trans q2 (Nat.lt_trans q3 (Nat.lt_trans q4 (Nat.lt_trans q5 q6))))))))
  have f477 := hm1460.other W464 (Ne.symm (Nat.ne_of_lt (Nat.lt_trans q0 (Nat.lt_trans q1 (Nat.lt_trans q2 (Nat.lt_trans q3 (Nat.lt_trans q4 (Nat.lt_trans q5 (Nat.lt_trans q6 q7)))))))))
  subst e464
  exact Ends.retI X464 hx hlk hret (hb hby d7_50) (by decide) (by decide) ⟨⟨_, rfl⟩, O464, Fw464, f466, f468, f469, f470, f473, f475, f476, f477⟩
theorem efR0 (m : MethodId) (x0 : Addr) (x1 : Int32) (x2 : UInt64) (x3 : UInt64) : entryFrame m #[(.ref x0), (.int x1), (.double x2), (.double x3)] 6 = mkF m 0 #[.val (.ref x0), .val (.int x1), .val (.double x2), .second, .val (.double x3), .second] [] := by first | (simp [entryFrame, mkF, argsToLocals, Value.category]; done) | rfl
set_option maxRecDepth 65536 in
set_option maxHeartbeats 40000000 in
theorem rmR0 (l : Launch) (Z : State) (a0 : Array Value) (hw : ∀ d ∈ tables_1, d.before a0 Z = true) (oa : Addr) (pS pE : UInt64) (mA m0 m1 m2 m3 : Addr) (y20 y21 y22 y30 y31 y32 : Value) (h0 : Heap) (ch : oa < mA ∧ mA < m0 ∧ m0 < m1 ∧ m1 < m2 ∧ m2 < m3) (F_m : Fld Z h0 oa "com/example/hourline/hourline/network/EdgeValues" "measures" "[[D" (.ref mA)) (A_m : Ary Z h0 mA (.array .double) [.ref m0, .ref m1, .ref m2, .ref m3]) (A_m2 : Ary Z h0 m2 .double [y20, y21, y22]) (A_m3 : Ary Z h0 m3 .double [y30, y31, y32]) :
    Con l (⟨"com/example/hourline/hourline/network/EdgeValues", "rise", "(IDD)V"⟩ : MethodName) prog_101_method_17_code 6 none [] ({ frames := 0, cells := 0, slots := 0, locals := 0 } : Room) #[(.ref oa), (.int (0 : Int32)), (.double pS), (.double pE)] Z h0 (fun v h L => v = none ∧ Ok h0 h [m2, m3] L ∧ Ary Z h m2 .double [(.double pS), y21, y22] ∧ Ary Z h m3 .double [(.double pE), y31, y32]) := by
  refine Con.of (plainFor_of_name pn_1) ?_
  intro p e s m below meth c s₁ hx hZ hby hml hown hnm hret hlk X0 e0
  refine Ends.cast (efR0 m oa (0 : Int32) pS pE) ?_
  show Ends p e below s _ _ _ s₁ (mkF m 0 #[.val (.ref oa), .val (.int (0 : Int32)), .val (.double pS), .second, .val (.double pE), .second] [])
  have O0 := Ok.refl h0 [m2, m3]
  obtain ⟨q0, q1, q2, q3, q4⟩ := id ch
  refine E.aloadN (q := 1) X0 hx (hb hby d12_0) rfl rfl ?_
  refine Ends.getF X0 hx hZ hown (host := "") (Or.inl (hw _ (List.mem_of_getElem? (i := 28) rfl))) Via.refl e0 F_m (hb hby d12_1) ?_
  intro T478 X478 e478
  refine E.iconst (q := 5) (v := (2 : Int32)) X478 hx (hb hby d12_4) rfl ?_
  refine Ends.ald X478 hx hZ e478 A_m rfl (i := 2) rfl rfl (hb hby d12_5) ?_
  refine E.iloadN (q := 7) X478 hx (hb hby d12_6) rfl ?_
  refine E.dloadN (q := 8) X478 hx (hb hby d12_7) rfl ?_
  refine Ends.dst X478 hx hZ e478 A_m2 (i := 0) rfl (show 0 < 3 from by decide) (hb hby d12_8) ?_
  intro T479 h479 X479 e479 W479 V479
  have V479 : Ary Z h479 m2 .double [(.double pS), y21, y22] := V479
  have O479 := O0.wr W479 (Or.inl (List.mem_of_getElem? (i := 0) rfl))
  refine E.aloadN (q := 10) X479 hx (hb hby d12_9) rfl rfl ?_
  have f480 := F_m.other W479 (Or.inl (Nat.ne_of_lt (Nat.lt_trans q0 (Nat.lt_trans q1 (Nat.lt_trans q2 q3)))))
  refine Ends.getF X479 hx hZ hown (host := "") (Or.inl (hw _ (List.mem_of_getElem? (i := 28) rfl))) Via.refl e479 f480 (hb hby d12_10) ?_
  intro T481 X481 e481
  refine E.iconst (q := 14) (v := (3 : Int32)) X481 hx (hb hby d12_13) rfl ?_
  have f482 := A_m.other W479 (Nat.ne_of_lt (Nat.lt_trans q1 (Nat.lt_trans q2 q3)))
  refine Ends.ald X481 hx hZ e481 f482 rfl (i := 3) rfl rfl (hb hby d12_14) ?_
  refine E.iloadN (q := 16) X481 hx (hb hby d12_15) rfl ?_
  refine E.dload (q := 18) X481 hx (hb hby d12_16) rfl ?_
  have f483 := A_m3.other W479 (Ne.symm (Nat.ne_of_lt q4))
  refine Ends.dst X481 hx hZ e481 f483 (i := 0) rfl (show 0 < 3 from by decide) (hb hby d12_18) ?_
  intro T484 h484 X484 e484 W484 V484
  have V484 : Ary Z h484 m3 .double [(.double pE), y31, y32] := V484
  have O484 := O479.wr W484 (Or.inl (List.mem_of_getElem? (i := 1) rfl))
  have f485 := V479.other W484 (Nat.ne_of_lt q4)
  subst e484
  exact Ends.retV X484 hx hlk hret (hb hby d12_19) (by decide) (by decide) ⟨rfl, O484, f485, V484⟩
theorem efR1 (m : MethodId) (x0 : Addr) (x1 : Int32) (x2 : UInt64) (x3 : UInt64) : entryFrame m #[(.ref x0), (.int x1), (.double x2), (.double x3)] 6 = mkF m 0 #[.val (.ref x0), .val (.int x1), .val (.double x2), .second, .val (.double x3), .second] [] := by first | (simp [entryFrame, mkF, argsToLocals, Value.category]; done) | rfl
set_option maxRecDepth 65536 in
set_option maxHeartbeats 40000000 in
theorem rmR1 (l : Launch) (Z : State) (a0 : Array Value) (hw : ∀ d ∈ tables_1, d.before a0 Z = true) (oa : Addr) (pS pE : UInt64) (mA m0 m1 m2 m3 : Addr) (y20 y21 y22 y30 y31 y32 : Value) (h0 : Heap) (ch : oa < mA ∧ mA < m0 ∧ m0 < m1 ∧ m1 < m2 ∧ m2 < m3) (F_m : Fld Z h0 oa "com/example/hourline/hourline/network/EdgeValues" "measures" "[[D" (.ref mA)) (A_m : Ary Z h0 mA (.array .double) [.ref m0, .ref m1, .ref m2, .ref m3]) (A_m2 : Ary Z h0 m2 .double [y20, y21, y22]) (A_m3 : Ary Z h0 m3 .double [y30, y31, y32]) :
    Con l (⟨"com/example/hourline/hourline/network/EdgeValues", "rise", "(IDD)V"⟩ : MethodName) prog_101_method_17_code 6 none [] ({ frames := 0, cells := 0, slots := 0, locals := 0 } : Room) #[(.ref oa), (.int (1 : Int32)), (.double pS), (.double pE)] Z h0 (fun v h L => v = none ∧ Ok h0 h [m2, m3] L ∧ Ary Z h m2 .double [y20, (.double pS), y22] ∧ Ary Z h m3 .double [y30, (.double pE), y32]) := by
  refine Con.of (plainFor_of_name pn_1) ?_
  intro p e s m below meth c s₁ hx hZ hby hml hown hnm hret hlk X0 e0
  refine Ends.cast (efR1 m oa (1 : Int32) pS pE) ?_
  show Ends p e below s _ _ _ s₁ (mkF m 0 #[.val (.ref oa), .val (.int (1 : Int32)), .val (.double pS), .second, .val (.double pE), .second] [])
  have O0 := Ok.refl h0 [m2, m3]
  obtain ⟨q0, q1, q2, q3, q4⟩ := id ch
  refine E.aloadN (q := 1) X0 hx (hb hby d12_0) rfl rfl ?_
  refine Ends.getF X0 hx hZ hown (host := "") (Or.inl (hw _ (List.mem_of_getElem? (i := 28) rfl))) Via.refl e0 F_m (hb hby d12_1) ?_
  intro T486 X486 e486
  refine E.iconst (q := 5) (v := (2 : Int32)) X486 hx (hb hby d12_4) rfl ?_
  refine Ends.ald X486 hx hZ e486 A_m rfl (i := 2) rfl rfl (hb hby d12_5) ?_
  refine E.iloadN (q := 7) X486 hx (hb hby d12_6) rfl ?_
  refine E.dloadN (q := 8) X486 hx (hb hby d12_7) rfl ?_
  refine Ends.dst X486 hx hZ e486 A_m2 (i := 1) rfl (show 1 < 3 from by decide) (hb hby d12_8) ?_
  intro T487 h487 X487 e487 W487 V487
  have V487 : Ary Z h487 m2 .double [y20, (.double pS), y22] := V487
  have O487 := O0.wr W487 (Or.inl (List.mem_of_getElem? (i := 0) rfl))
  refine E.aloadN (q := 10) X487 hx (hb hby d12_9) rfl rfl ?_
  have f488 := F_m.other W487 (Or.inl (Nat.ne_of_lt (Nat.lt_trans q0 (Nat.lt_trans q1 (Nat.lt_trans q2 q3)))))
  refine Ends.getF X487 hx hZ hown (host := "") (Or.inl (hw _ (List.mem_of_getElem? (i := 28) rfl))) Via.refl e487 f488 (hb hby d12_10) ?_
  intro T489 X489 e489
  refine E.iconst (q := 14) (v := (3 : Int32)) X489 hx (hb hby d12_13) rfl ?_
  have f490 := A_m.other W487 (Nat.ne_of_lt (Nat.lt_trans q1 (Nat.lt_trans q2 q3)))
  refine Ends.ald X489 hx hZ e489 f490 rfl (i := 3) rfl rfl (hb hby d12_14) ?_
  refine E.iloadN (q := 16) X489 hx (hb hby d12_15) rfl ?_
  refine E.dload (q := 18) X489 hx (hb hby d12_16) rfl ?_
  have f491 := A_m3.other W487 (Ne.symm (Nat.ne_of_lt q4))
  refine Ends.dst X489 hx hZ e489 f491 (i := 1) rfl (show 1 < 3 from by decide) (hb hby d12_18) ?_
  intro T492 h492 X492 e492 W492 V492
  have V492 : Ary Z h492 m3 .double [y30, (.double pE), y32] := V492
  have O492 := O487.wr W492 (Or.inl (List.mem_of_getElem? (i := 1) rfl))
  have f493 := V487.other W492 (Nat.ne_of_lt q4)
  subst e492
  exact Ends.retV X492 hx hlk hret (hb hby d12_19) (by decide) (by decide) ⟨rfl, O492, f493, V492⟩
theorem efF0 (m : MethodId) (x0 : Addr) (x1 : Addr) : entryFrame m #[(.ref x0), (.ref x1)] 8 = mkF m 0 #[.val (.ref x0), .val (.ref x1), .unset, .unset, .unset, .unset, .unset, .unset] [] := by first | (simp [entryFrame, mkF, argsToLocals, Value.category]; done) | rfl
set_option maxRecDepth 65536 in
set_option maxHeartbeats 40000000 in
theorem rmF0 (l : Launch) (Z : State) (a0 : Array Value) (hw : ∀ d ∈ tables_1, d.before a0 Z = true) (oa ob : Addr) (nz : Int32) (nA mA n0 n1 n2 n3 m0 m1 : Addr) (x00 x01 x02 x10 x11 x12 x20 x21 x22 x30 x31 x32 : Int32) (y00 y01 y02 y10 y11 y12 : UInt64) (bv0 bv1 bv2 bv3 : Int32) (C0 C1 C2 C3 C4 C5 : Bool × Bool) (h0 : Heap) (hnz : nz = (0 : Int32) ∨ nz = (1 : Int32) ∨ nz = (2 : Int32)) (E0 : Exa Z h0 oa "com/example/hourline/hourline/network/EdgeValues") (F_n : Fld Z h0 oa "com/example/hourline/hourline/network/EdgeValues" "numbers" "[[I" (.ref nA)) (F_m : Fld Z h0 oa "com/example/hourline/hourline/network/EdgeValues" "measures" "[[D" (.ref mA)) (F_s : Fld Z h0 oa "com/example/hourline/hourline/network/EdgeValues" "size" "I" (.int nz)) (S0 : Sta Z h0 "com/example/hourline/hourline/network/EdgeValues" "NUMBERS" "I" (.int (4 : Int32))) (A_ob : Ary Z h0 ob .int [.int bv0, .int bv1, .int bv2, .int bv3]) (A_nA : Ary Z h0 nA (.array .int) [.ref n0, .ref n1, .ref n2, .ref n3]) (A_mA : Ary Z h0 mA (.array .double) [.ref m0, .ref m1]) (A_n0 : Ary Z h0 n0 .int [(.int x00), (.int x01), (.int x02)]) (A_n1 : Ary Z h0 n1 .int [(.int x10), (.int x11), (.int x12)]) (A_n2 : Ary Z h0 n2 .int [(.int x20), (.int x21), (.int x22)]) (A_n3 : Ary Z h0 n3 .int [(.int x30), (.int x31), (.int x32)]) (A_m0 : Ary Z h0 m0 .double [(.double y00), (.double y01), (.double y02)]) (A_m1 : Ary Z h0 m1 .double [(.double y10), (.double y11), (.double y12)]) (hC0 : C0 = (own_bi x00 bv0, own_bi x01 bv0)) (hC1 : C1 = (own_bi x10 bv1, own_bi x11 bv1)) (hC2 : C2 = (own_bi x20 bv2, own_bi x21 bv2)) (hC3 : C3 = (own_bi x30 bv3, own_bi x31 bv3)) (hC4 : C4 = (own_bd y00, own_bd y01)) (hC5 : C5 = (own_bd y10, own_bd y11)) :
    Con l (⟨"com/example/hourline/hourline/network/EdgeValues", "firstUnfit", "([I)I"⟩ : MethodName) prog_101_method_33_code 8 (some .int) [] ({ frames := 0, cells := 0, slots := 0, locals := 0 } : Room) #[(.ref oa), (.ref ob)] Z h0 (fun v h L => v = some (.int (own_fold [C0, C1, C2, C3, C4, C5] nz)) ∧ h = h0 ∧ L = []) := by
  refine Con.of (plainFor_of_name pn_1) ?_
  intro p e s m below meth c s₁ hx hZ hby hml hown hnm hret hlk X0 e0
  refine Ends.cast (efF0 m oa ob) ?_
  show Ends p e below s _ _ _ s₁ (mkF m 0 #[.val (.ref oa), .val (.ref ob), .unset, .unset, .unset, .unset, .unset, .unset] [])
  have O0 := Ok.refl h0 []
  have JM2_0 : ∀ (Tj : State) (s6 s7 : Slot), Stand p l e ({ frames := 0, cells := 0, slots := 0, locals := 0 } : Room) s m #[(.ref oa), (.ref ob)] below meth c Tj [] 0 0 → Tj.heap = h0 → (s6 = .unset ∨ ∃ w, s6 = .val w ∧ w.category = 1) → (s7 = .unset ∨ ∃ w, s7 = .val w ∧ w.category = 1) → own_fold [C0, C1, C2, C3, C4, C5] nz = own_fold [] (0 : Int32) → Ends p e below s (fun v h L => v = some (.int (own_fold [C0, C1, C2, C3, C4, C5] nz)) ∧ h = h0 ∧ L = []) ({ frames := 0, cells := 0, slots := 0, locals := 0 } : Room).cells ({ frames := 0, cells := 0, slots := 0, locals := 0 } : Room).slots Tj (mkF m 81 #[.val (.ref oa), .val (.ref ob), .val (.int (0 : Int32)), .val (.ref mA), .val (.int (2 : Int32)), .val (.int (2 : Int32)), s6, s7] []) := by
    intro Tj s6 s7 Xj ej hs6 hs7 hR
    refine E.iload (q := 83) Xj hx (hb hby d10_81) rfl ?_
    refine E.iload (q := 85) Xj hx (hb hby d10_83) rfl ?_
    refine E.icmpY (q := 142) Xj hx (hb hby d10_85) (XT.ii_ge_t (by decide)) ?_
    refine E.iloadN (q := 143) Xj hx (hb hby d10_142) rfl ?_
    exact Ends.retI Xj hx hlk hret (hb hby d10_143) (by decide) (by decide) ⟨congrArg (fun z => some (Value.int z)) hR.symm, ej, rfl⟩
  have JM2_1 : ∀ (Tj : State) (s6 s7 : Slot), Stand p l e ({ frames := 0, cells := 0, slots := 0, locals := 0 } : Room) s m #[(.ref oa), (.ref ob)] below meth c Tj [] 0 0 → Tj.heap = h0 → (s6 = .unset ∨ ∃ w, s6 = .val w ∧ w.category = 1) → (s7 = .unset ∨ ∃ w, s7 = .val w ∧ w.category = 1) → own_fold [C0, C1, C2, C3, C4, C5] nz = own_fold [] (1 : Int32) → Ends p e below s (fun v h L => v = some (.int (own_fold [C0, C1, C2, C3, C4, C5] nz)) ∧ h = h0 ∧ L = []) ({ frames := 0, cells := 0, slots := 0, locals := 0 } : Room).cells ({ frames := 0, cells := 0, slots := 0, locals := 0 } : Room).slots Tj (mkF m 81 #[.val (.ref oa), .val (.ref ob), .val (.int (1 : Int32)), .val (.ref mA), .val (.int (2 : Int32)), .val (.int (2 : Int32)), s6, s7] []) := by
    intro Tj s6 s7 Xj ej hs6 hs7 hR
    refine E.iload (q := 83) Xj hx (hb hby d10_81) rfl ?_
    refine E.iload (q := 85) Xj hx (hb hby d10_83) rfl ?_
    refine E.icmpY (q := 142) Xj hx (hb hby d10_85) (XT.ii_ge_t (by decide)) ?_
    refine E.iloadN (q := 143) Xj hx (hb hby d10_142) rfl ?_
    exact Ends.retI Xj hx hlk hret (hb hby d10_143) (by decide) (by decide) ⟨congrArg (fun z => some (Value.int z)) hR.symm, ej, rfl⟩
  have JM2_2 : ∀ (Tj : State) (s6 s7 : Slot), Stand p l e ({ frames := 0, cells := 0, slots := 0, locals := 0 } : Room) s m #[(.ref oa), (.ref ob)] below meth c Tj [] 0 0 → Tj.heap = h0 → (s6 = .unset ∨ ∃ w, s6 = .val w ∧ w.category = 1) → (s7 = .unset ∨ ∃ w, s7 = .val w ∧ w.category = 1) → own_fold [C0, C1, C2, C3, C4, C5] nz = own_fold [] (2 : Int32) → Ends p e below s (fun v h L => v = some (.int (own_fold [C0, C1, C2, C3, C4, C5] nz)) ∧ h = h0 ∧ L = []) ({ frames := 0, cells := 0, slots := 0, locals := 0 } : Room).cells ({ frames := 0, cells := 0, slots := 0, locals := 0 } : Room).slots Tj (mkF m 81 #[.val (.ref oa), .val (.ref ob), .val (.int (2 : Int32)), .val (.ref mA), .val (.int (2 : Int32)), .val (.int (2 : Int32)), s6, s7] []) := by
    intro Tj s6 s7 Xj ej hs6 hs7 hR
    refine E.iload (q := 83) Xj hx (hb hby d10_81) rfl ?_
    refine E.iload (q := 85) Xj hx (hb hby d10_83) rfl ?_
    refine E.icmpY (q := 142) Xj hx (hb hby d10_85) (XT.ii_ge_t (by decide)) ?_
    refine E.iloadN (q := 143) Xj hx (hb hby d10_142) rfl ?_
    exact Ends.retI Xj hx hlk hret (hb hby d10_143) (by decide) (by decide) ⟨congrArg (fun z => some (Value.int z)) hR.symm, ej, rfl⟩
  have JM1_0 : ∀ (Tj : State) (s6 s7 : Slot), Stand p l e ({ frames := 0, cells := 0, slots := 0, locals := 0 } : Room) s m #[(.ref oa), (.ref ob)] below meth c Tj [] 0 0 → Tj.heap = h0 → (s6 = .unset ∨ ∃ w, s6 = .val w ∧ w.category = 1) → (s7 = .unset ∨ ∃ w, s7 = .val w ∧ w.category = 1) → own_fold [C0, C1, C2, C3, C4, C5] nz = own_fold [C5] (0 : Int32) → Ends p e below s (fun v h L => v = some (.int (own_fold [C0, C1, C2, C3, C4, C5] nz)) ∧ h = h0 ∧ L = []) ({ frames := 0, cells := 0, slots := 0, locals := 0 } : Room).cells ({ frames := 0, cells := 0, slots := 0, locals := 0 } : Room).slots Tj (mkF m 81 #[.val (.ref oa), .val (.ref ob), .val (.int (0 : Int32)), .val (.ref mA), .val (.int (2 : Int32)), .val (.int (1 : Int32)), s6, s7] []) := by
    intro Tj s6 s7 Xj ej hs6 hs7 hR
    refine E.iload (q := 83) Xj hx (hb hby d10_81) rfl ?_
    refine E.iload (q := 85) Xj hx (hb hby d10_83) rfl ?_
    refine E.icmpN (q := 88) Xj hx (hb hby d10_85) (XT.ii_ge_f (by decide)) ?_
    refine E.aloadN (q := 89) Xj hx (hb hby d10_88) rfl rfl ?_
    refine E.iload (q := 91) Xj hx (hb hby d10_89) rfl ?_
    refine Ends.ald Xj hx hZ ej A_mA rfl (i := 1) rfl rfl (hb hby d10_91) ?_
    refine E.astore (q := 94) (l' := #[.val (.ref oa), .val (.ref ob), .val (.int (0 : Int32)), .val (.ref mA), .val (.int (2 : Int32)), .val (.int (1 : Int32)), .val (.ref m1), s7]) Xj hx (hb hby d10_92) rfl (XS.store1 rfl hs6 rfl) ?_
    refine E.iconst (q := 95) (v := (0 : Int32)) Xj hx (hb hby d10_94) rfl ?_
    refine E.istore (q := 97) (l' := #[.val (.ref oa), .val (.ref ob), .val (.int (0 : Int32)), .val (.ref mA), .val (.int (2 : Int32)), .val (.int (1 : Int32)), .val (.ref m1), .val (.int (0 : Int32))]) Xj hx (hb hby d10_95) (XS.store1 rfl hs7 rfl) ?_
    refine E.iload (q := 99) Xj hx (hb hby d10_97) rfl ?_
    refine E.iloadN (q := 100) Xj hx (hb hby d10_99) rfl ?_
    refine E.icmpY (q := 136) Xj hx (hb hby d10_100) (XT.ii_ge_t (by decide)) ?_
    refine E.iinc (q := 139) (v := (2 : Int32)) (l' := #[.val (.ref oa), .val (.ref ob), .val (.int (0 : Int32)), .val (.ref mA), .val (.int (2 : Int32)), .val (.int (2 : Int32)), .val (.ref m1), .val (.int (0 : Int32))]) Xj hx (hb hby d10_136) rfl (by decide) rfl ?_
    refine E.goto (q := 81) Xj hx (hb hby d10_139) ?_
    have hst : own_st C5 (0 : Int32) = (0 : Int32) := by rw [hC5]; simp [own_st, own_bi, own_bd]
    exact JM2_0 Tj (.val (.ref m1)) (.val (.int (0 : Int32))) Xj ej (Or.inr ⟨_, rfl, rfl⟩) (Or.inr ⟨_, rfl, rfl⟩) (hR.trans (congrArg (own_fold []) hst))
  have JM1_1 : ∀ (Tj : State) (s6 s7 : Slot), Stand p l e ({ frames := 0, cells := 0, slots := 0, locals := 0 } : Room) s m #[(.ref oa), (.ref ob)] below meth c Tj [] 0 0 → Tj.heap = h0 → (s6 = .unset ∨ ∃ w, s6 = .val w ∧ w.category = 1) → (s7 = .unset ∨ ∃ w, s7 = .val w ∧ w.category = 1) → own_fold [C0, C1, C2, C3, C4, C5] nz = own_fold [C5] (1 : Int32) → Ends p e below s (fun v h L => v = some (.int (own_fold [C0, C1, C2, C3, C4, C5] nz)) ∧ h = h0 ∧ L = []) ({ frames := 0, cells := 0, slots := 0, locals := 0 } : Room).cells ({ frames := 0, cells := 0, slots := 0, locals := 0 } : Room).slots Tj (mkF m 81 #[.val (.ref oa), .val (.ref ob), .val (.int (1 : Int32)), .val (.ref mA), .val (.int (2 : Int32)), .val (.int (1 : Int32)), s6, s7] []) := by
    intro Tj s6 s7 Xj ej hs6 hs7 hR
    refine E.iload (q := 83) Xj hx (hb hby d10_81) rfl ?_
    refine E.iload (q := 85) Xj hx (hb hby d10_83) rfl ?_
    refine E.icmpN (q := 88) Xj hx (hb hby d10_85) (XT.ii_ge_f (by decide)) ?_
    refine E.aloadN (q := 89) Xj hx (hb hby d10_88) rfl rfl ?_
    refine E.iload (q := 91) Xj hx (hb hby d10_89) rfl ?_
    refine Ends.ald Xj hx hZ ej A_mA rfl (i := 1) rfl rfl (hb hby d10_91) ?_
    refine E.astore (q := 94) (l' := #[.val (.ref oa), .val (.ref ob), .val (.int (1 : Int32)), .val (.ref mA), .val (.int (2 : Int32)), .val (.int (1 : Int32)), .val (.ref m1), s7]) Xj hx (hb hby d10_92) rfl (XS.store1 rfl hs6 rfl) ?_
    refine E.iconst (q := 95) (v := (0 : Int32)) Xj hx (hb hby d10_94) rfl ?_
    refine E.istore (q := 97) (l' := #[.val (.ref oa), .val (.ref ob), .val (.int (1 : Int32)), .val (.ref mA), .val (.int (2 : Int32)), .val (.int (1 : Int32)), .val (.ref m1), .val (.int (0 : Int32))]) Xj hx (hb hby d10_95) (XS.store1 rfl hs7 rfl) ?_
    refine E.iload (q := 99) Xj hx (hb hby d10_97) rfl ?_
    refine E.iloadN (q := 100) Xj hx (hb hby d10_99) rfl ?_
    refine E.icmpN (q := 103) Xj hx (hb hby d10_100) (XT.ii_ge_f (by decide)) ?_
    refine E.aload (q := 105) Xj hx (hb hby d10_103) rfl rfl ?_
    refine E.iload (q := 107) Xj hx (hb hby d10_105) rfl ?_
    refine Ends.dld Xj hx hZ ej A_m1 (i := 0) rfl rfl (hb hby d10_107) ?_
    refine E.ldc2D (q := 111) Xj hx hZ hown (hw _ (List.mem_of_getElem? (i := 75) rfl)) (hb hby d10_108) ?_
    refine E.dcmp (q := 112) Xj hx (hb hby d10_111) ?_
    by_cases hc494 : (cmpValue (FP.dcmp y10 (18442240474082181119 : UInt64)) .l) < (0 : Int32)
    · refine E.ifY (q := 127) Xj hx (hb hby d10_112) (XT.i0_lt_t hc494) ?_
      refine E.iload (q := 129) Xj hx (hb hby d10_127) rfl ?_
      refine E.istoreN (q := 130) (l' := #[.val (.ref oa), .val (.ref ob), .val (.int (0 : Int32)), .val (.ref mA), .val (.int (2 : Int32)), .val (.int (1 : Int32)), .val (.ref m1), .val (.int (0 : Int32))]) Xj hx (hb hby d10_129) rfl ?_
      refine E.iinc (q := 133) (v := (1 : Int32)) (l' := #[.val (.ref oa), .val (.ref ob), .val (.int (0 : Int32)), .val (.ref mA), .val (.int (2 : Int32)), .val (.int (1 : Int32)), .val (.ref m1), .val (.int (1 : Int32))]) Xj hx (hb hby d10_130) rfl (by decide) rfl ?_
      refine E.goto (q := 97) Xj hx (hb hby d10_133) ?_
      refine E.iload (q := 99) Xj hx (hb hby d10_97) rfl ?_
      refine E.iloadN (q := 100) Xj hx (hb hby d10_99) rfl ?_
      refine E.icmpY (q := 136) Xj hx (hb hby d10_100) (XT.ii_ge_t (by decide)) ?_
      refine E.iinc (q := 139) (v := (2 : Int32)) (l' := #[.val (.ref oa), .val (.ref ob), .val (.int (0 : Int32)), .val (.ref mA), .val (.int (2 : Int32)), .val (.int (2 : Int32)), .val (.ref m1), .val (.int (1 : Int32))]) Xj hx (hb hby d10_136) rfl (by decide) rfl ?_
      refine E.goto (q := 81) Xj hx (hb hby d10_139) ?_
      have hst : own_st C5 (1 : Int32) = (0 : Int32) := by rw [hC5]; simp [own_st, own_bi, own_bd, hc494]
      exact JM2_0 Tj (.val (.ref m1)) (.val (.int (1 : Int32))) Xj ej (Or.inr ⟨_, rfl, rfl⟩) (Or.inr ⟨_, rfl, rfl⟩) (hR.trans (congrArg (own_fold []) hst))
    · refine E.ifN (q := 115) Xj hx (hb hby d10_112) (XT.i0_lt_f hc494) ?_
      refine E.aload (q := 117) Xj hx (hb hby d10_115) rfl rfl ?_
      refine E.iload (q := 119) Xj hx (hb hby d10_117) rfl ?_
      refine Ends.dld Xj hx hZ ej A_m1 (i := 0) rfl rfl (hb hby d10_119) ?_
      refine E.ldc2D (q := 123) Xj hx hZ hown (hw _ (List.mem_of_getElem? (i := 76) rfl)) (hb hby d10_120) ?_
      refine E.dcmp (q := 124) Xj hx (hb hby d10_123) ?_
      by_cases hc495 : (0 : Int32) < (cmpValue (FP.dcmp y10 (9218868437227405311 : UInt64)) .g)
      · refine E.ifN (q := 127) Xj hx (hb hby d10_124) (XT.i0_le_f hc495) ?_
        refine E.iload (q := 129) Xj hx (hb hby d10_127) rfl ?_
        refine E.istoreN (q := 130) (l' := #[.val (.ref oa), .val (.ref ob), .val (.int (0 : Int32)), .val (.ref mA), .val (.int (2 : Int32)), .val (.int (1 : Int32)), .val (.ref m1), .val (.int (0 : Int32))]) Xj hx (hb hby d10_129) rfl ?_
        refine E.iinc (q := 133) (v := (1 : Int32)) (l' := #[.val (.ref oa), .val (.ref ob), .val (.int (0 : Int32)), .val (.ref mA), .val (.int (2 : Int32)), .val (.int (1 : Int32)), .val (.ref m1), .val (.int (1 : Int32))]) Xj hx (hb hby d10_130) rfl (by decide) rfl ?_
        refine E.goto (q := 97) Xj hx (hb hby d10_133) ?_
        refine E.iload (q := 99) Xj hx (hb hby d10_97) rfl ?_
        refine E.iloadN (q := 100) Xj hx (hb hby d10_99) rfl ?_
        refine E.icmpY (q := 136) Xj hx (hb hby d10_100) (XT.ii_ge_t (by decide)) ?_
        refine E.iinc (q := 139) (v := (2 : Int32)) (l' := #[.val (.ref oa), .val (.ref ob), .val (.int (0 : Int32)), .val (.ref mA), .val (.int (2 : Int32)), .val (.int (2 : Int32)), .val (.ref m1), .val (.int (1 : Int32))]) Xj hx (hb hby d10_136) rfl (by decide) rfl ?_
        refine E.goto (q := 81) Xj hx (hb hby d10_139) ?_
        have hst : own_st C5 (1 : Int32) = (0 : Int32) := by rw [hC5]; simp [own_st, own_bi, own_bd, hc494, hc495]
        exact JM2_0 Tj (.val (.ref m1)) (.val (.int (1 : Int32))) Xj ej (Or.inr ⟨_, rfl, rfl⟩) (Or.inr ⟨_, rfl, rfl⟩) (hR.trans (congrArg (own_fold []) hst))
      · refine E.ifY (q := 130) Xj hx (hb hby d10_124) (XT.i0_le_t hc495) ?_
        refine E.iinc (q := 133) (v := (1 : Int32)) (l' := #[.val (.ref oa), .val (.ref ob), .val (.int (1 : Int32)), .val (.ref mA), .val (.int (2 : Int32)), .val (.int (1 : Int32)), .val (.ref m1), .val (.int (1 : Int32))]) Xj hx (hb hby d10_130) rfl (by decide) rfl ?_
        refine E.goto (q := 97) Xj hx (hb hby d10_133) ?_
        refine E.iload (q := 99) Xj hx (hb hby d10_97) rfl ?_
        refine E.iloadN (q := 100) Xj hx (hb hby d10_99) rfl ?_
        refine E.icmpY (q := 136) Xj hx (hb hby d10_100) (XT.ii_ge_t (by decide)) ?_
        refine E.iinc (q := 139) (v := (2 : Int32)) (l' := #[.val (.ref oa), .val (.ref ob), .val (.int (1 : Int32)), .val (.ref mA), .val (.int (2 : Int32)), .val (.int (2 : Int32)), .val (.ref m1), .val (.int (1 : Int32))]) Xj hx (hb hby d10_136) rfl (by decide) rfl ?_
        refine E.goto (q := 81) Xj hx (hb hby d10_139) ?_
        have hst : own_st C5 (1 : Int32) = (1 : Int32) := by rw [hC5]; simp [own_st, own_bi, own_bd, hc494, hc495]
        exact JM2_1 Tj (.val (.ref m1)) (.val (.int (1 : Int32))) Xj ej (Or.inr ⟨_, rfl, rfl⟩) (Or.inr ⟨_, rfl, rfl⟩) (hR.trans (congrArg (own_fold []) hst))
  have JM1_2 : ∀ (Tj : State) (s6 s7 : Slot), Stand p l e ({ frames := 0, cells := 0, slots := 0, locals := 0 } : Room) s m #[(.ref oa), (.ref ob)] below meth c Tj [] 0 0 → Tj.heap = h0 → (s6 = .unset ∨ ∃ w, s6 = .val w ∧ w.category = 1) → (s7 = .unset ∨ ∃ w, s7 = .val w ∧ w.category = 1) → own_fold [C0, C1, C2, C3, C4, C5] nz = own_fold [C5] (2 : Int32) → Ends p e below s (fun v h L => v = some (.int (own_fold [C0, C1, C2, C3, C4, C5] nz)) ∧ h = h0 ∧ L = []) ({ frames := 0, cells := 0, slots := 0, locals := 0 } : Room).cells ({ frames := 0, cells := 0, slots := 0, locals := 0 } : Room).slots Tj (mkF m 81 #[.val (.ref oa), .val (.ref ob), .val (.int (2 : Int32)), .val (.ref mA), .val (.int (2 : Int32)), .val (.int (1 : Int32)), s6, s7] []) := by
    intro Tj s6 s7 Xj ej hs6 hs7 hR
    refine E.iload (q := 83) Xj hx (hb hby d10_81) rfl ?_
    refine E.iload (q := 85) Xj hx (hb hby d10_83) rfl ?_
    refine E.icmpN (q := 88) Xj hx (hb hby d10_85) (XT.ii_ge_f (by decide)) ?_
    refine E.aloadN (q := 89) Xj hx (hb hby d10_88) rfl rfl ?_
    refine E.iload (q := 91) Xj hx (hb hby d10_89) rfl ?_
    refine Ends.ald Xj hx hZ ej A_mA rfl (i := 1) rfl rfl (hb hby d10_91) ?_
    refine E.astore (q := 94) (l' := #[.val (.ref oa), .val (.ref ob), .val (.int (2 : Int32)), .val (.ref mA), .val (.int (2 : Int32)), .val (.int (1 : Int32)), .val (.ref m1), s7]) Xj hx (hb hby d10_92) rfl (XS.store1 rfl hs6 rfl) ?_
    refine E.iconst (q := 95) (v := (0 : Int32)) Xj hx (hb hby d10_94) rfl ?_
    refine E.istore (q := 97) (l' := #[.val (.ref oa), .val (.ref ob), .val (.int (2 : Int32)), .val (.ref mA), .val (.int (2 : Int32)), .val (.int (1 : Int32)), .val (.ref m1), .val (.int (0 : Int32))]) Xj hx (hb hby d10_95) (XS.store1 rfl hs7 rfl) ?_
    refine E.iload (q := 99) Xj hx (hb hby d10_97) rfl ?_
    refine E.iloadN (q := 100) Xj hx (hb hby d10_99) rfl ?_
    refine E.icmpN (q := 103) Xj hx (hb hby d10_100) (XT.ii_ge_f (by decide)) ?_
    refine E.aload (q := 105) Xj hx (hb hby d10_103) rfl rfl ?_
    refine E.iload (q := 107) Xj hx (hb hby d10_105) rfl ?_
    refine Ends.dld Xj hx hZ ej A_m1 (i := 0) rfl rfl (hb hby d10_107) ?_
    refine E.ldc2D (q := 111) Xj hx hZ hown (hw _ (List.mem_of_getElem? (i := 75) rfl)) (hb hby d10_108) ?_
    refine E.dcmp (q := 112) Xj hx (hb hby d10_111) ?_
    by_cases hc496 : (cmpValue (FP.dcmp y10 (18442240474082181119 : UInt64)) .l) < (0 : Int32)
    · refine E.ifY (q := 127) Xj hx (hb hby d10_112) (XT.i0_lt_t hc496) ?_
      refine E.iload (q := 129) Xj hx (hb hby d10_127) rfl ?_
      refine E.istoreN (q := 130) (l' := #[.val (.ref oa), .val (.ref ob), .val (.int (0 : Int32)), .val (.ref mA), .val (.int (2 : Int32)), .val (.int (1 : Int32)), .val (.ref m1), .val (.int (0 : Int32))]) Xj hx (hb hby d10_129) rfl ?_
      refine E.iinc (q := 133) (v := (1 : Int32)) (l' := #[.val (.ref oa), .val (.ref ob), .val (.int (0 : Int32)), .val (.ref mA), .val (.int (2 : Int32)), .val (.int (1 : Int32)), .val (.ref m1), .val (.int (1 : Int32))]) Xj hx (hb hby d10_130) rfl (by decide) rfl ?_
      refine E.goto (q := 97) Xj hx (hb hby d10_133) ?_
      refine E.iload (q := 99) Xj hx (hb hby d10_97) rfl ?_
      refine E.iloadN (q := 100) Xj hx (hb hby d10_99) rfl ?_
      refine E.icmpY (q := 136) Xj hx (hb hby d10_100) (XT.ii_ge_t (by decide)) ?_
      refine E.iinc (q := 139) (v := (2 : Int32)) (l' := #[.val (.ref oa), .val (.ref ob), .val (.int (0 : Int32)), .val (.ref mA), .val (.int (2 : Int32)), .val (.int (2 : Int32)), .val (.ref m1), .val (.int (1 : Int32))]) Xj hx (hb hby d10_136) rfl (by decide) rfl ?_
      refine E.goto (q := 81) Xj hx (hb hby d10_139) ?_
      have hst : own_st C5 (2 : Int32) = (0 : Int32) := by rw [hC5]; simp [own_st, own_bi, own_bd, hc496]
      exact JM2_0 Tj (.val (.ref m1)) (.val (.int (1 : Int32))) Xj ej (Or.inr ⟨_, rfl, rfl⟩) (Or.inr ⟨_, rfl, rfl⟩) (hR.trans (congrArg (own_fold []) hst))
    · refine E.ifN (q := 115) Xj hx (hb hby d10_112) (XT.i0_lt_f hc496) ?_
      refine E.aload (q := 117) Xj hx (hb hby d10_115) rfl rfl ?_
      refine E.iload (q := 119) Xj hx (hb hby d10_117) rfl ?_
      refine Ends.dld Xj hx hZ ej A_m1 (i := 0) rfl rfl (hb hby d10_119) ?_
      refine E.ldc2D (q := 123) Xj hx hZ hown (hw _ (List.mem_of_getElem? (i := 76) rfl)) (hb hby d10_120) ?_
      refine E.dcmp (q := 124) Xj hx (hb hby d10_123) ?_
      by_cases hc497 : (0 : Int32) < (cmpValue (FP.dcmp y10 (9218868437227405311 : UInt64)) .g)
      · refine E.ifN (q := 127) Xj hx (hb hby d10_124) (XT.i0_le_f hc497) ?_
        refine E.iload (q := 129) Xj hx (hb hby d10_127) rfl ?_
        refine E.istoreN (q := 130) (l' := #[.val (.ref oa), .val (.ref ob), .val (.int (0 : Int32)), .val (.ref mA), .val (.int (2 : Int32)), .val (.int (1 : Int32)), .val (.ref m1), .val (.int (0 : Int32))]) Xj hx (hb hby d10_129) rfl ?_
        refine E.iinc (q := 133) (v := (1 : Int32)) (l' := #[.val (.ref oa), .val (.ref ob), .val (.int (0 : Int32)), .val (.ref mA), .val (.int (2 : Int32)), .val (.int (1 : Int32)), .val (.ref m1), .val (.int (1 : Int32))]) Xj hx (hb hby d10_130) rfl (by decide) rfl ?_
        refine E.goto (q := 97) Xj hx (hb hby d10_133) ?_
        refine E.iload (q := 99) Xj hx (hb hby d10_97) rfl ?_
        refine E.iloadN (q := 100) Xj hx (hb hby d10_99) rfl ?_
        refine E.icmpY (q := 136) Xj hx (hb hby d10_100) (XT.ii_ge_t (by decide)) ?_
        refine E.iinc (q := 139) (v := (2 : Int32)) (l' := #[.val (.ref oa), .val (.ref ob), .val (.int (0 : Int32)), .val (.ref mA), .val (.int (2 : Int32)), .val (.int (2 : Int32)), .val (.ref m1), .val (.int (1 : Int32))]) Xj hx (hb hby d10_136) rfl (by decide) rfl ?_
        refine E.goto (q := 81) Xj hx (hb hby d10_139) ?_
        have hst : own_st C5 (2 : Int32) = (0 : Int32) := by rw [hC5]; simp [own_st, own_bi, own_bd, hc496, hc497]
        exact JM2_0 Tj (.val (.ref m1)) (.val (.int (1 : Int32))) Xj ej (Or.inr ⟨_, rfl, rfl⟩) (Or.inr ⟨_, rfl, rfl⟩) (hR.trans (congrArg (own_fold []) hst))
      · refine E.ifY (q := 130) Xj hx (hb hby d10_124) (XT.i0_le_t hc497) ?_
        refine E.iinc (q := 133) (v := (1 : Int32)) (l' := #[.val (.ref oa), .val (.ref ob), .val (.int (2 : Int32)), .val (.ref mA), .val (.int (2 : Int32)), .val (.int (1 : Int32)), .val (.ref m1), .val (.int (1 : Int32))]) Xj hx (hb hby d10_130) rfl (by decide) rfl ?_
        refine E.goto (q := 97) Xj hx (hb hby d10_133) ?_
        refine E.iload (q := 99) Xj hx (hb hby d10_97) rfl ?_
        refine E.iloadN (q := 100) Xj hx (hb hby d10_99) rfl ?_
        refine E.icmpN (q := 103) Xj hx (hb hby d10_100) (XT.ii_ge_f (by decide)) ?_
        refine E.aload (q := 105) Xj hx (hb hby d10_103) rfl rfl ?_
        refine E.iload (q := 107) Xj hx (hb hby d10_105) rfl ?_
        refine Ends.dld Xj hx hZ ej A_m1 (i := 1) rfl rfl (hb hby d10_107) ?_
        refine E.ldc2D (q := 111) Xj hx hZ hown (hw _ (List.mem_of_getElem? (i := 75) rfl)) (hb hby d10_108) ?_
        refine E.dcmp (q := 112) Xj hx (hb hby d10_111) ?_
        by_cases hc498 : (cmpValue (FP.dcmp y11 (18442240474082181119 : UInt64)) .l) < (0 : Int32)
        · refine E.ifY (q := 127) Xj hx (hb hby d10_112) (XT.i0_lt_t hc498) ?_
          refine E.iload (q := 129) Xj hx (hb hby d10_127) rfl ?_
          refine E.istoreN (q := 130) (l' := #[.val (.ref oa), .val (.ref ob), .val (.int (1 : Int32)), .val (.ref mA), .val (.int (2 : Int32)), .val (.int (1 : Int32)), .val (.ref m1), .val (.int (1 : Int32))]) Xj hx (hb hby d10_129) rfl ?_
          refine E.iinc (q := 133) (v := (2 : Int32)) (l' := #[.val (.ref oa), .val (.ref ob), .val (.int (1 : Int32)), .val (.ref mA), .val (.int (2 : Int32)), .val (.int (1 : Int32)), .val (.ref m1), .val (.int (2 : Int32))]) Xj hx (hb hby d10_130) rfl (by decide) rfl ?_
          refine E.goto (q := 97) Xj hx (hb hby d10_133) ?_
          refine E.iload (q := 99) Xj hx (hb hby d10_97) rfl ?_
          refine E.iloadN (q := 100) Xj hx (hb hby d10_99) rfl ?_
          refine E.icmpY (q := 136) Xj hx (hb hby d10_100) (XT.ii_ge_t (by decide)) ?_
          refine E.iinc (q := 139) (v := (2 : Int32)) (l' := #[.val (.ref oa), .val (.ref ob), .val (.int (1 : Int32)), .val (.ref mA), .val (.int (2 : Int32)), .val (.int (2 : Int32)), .val (.ref m1), .val (.int (2 : Int32))]) Xj hx (hb hby d10_136) rfl (by decide) rfl ?_
          refine E.goto (q := 81) Xj hx (hb hby d10_139) ?_
          have hst : own_st C5 (2 : Int32) = (1 : Int32) := by rw [hC5]; simp [own_st, own_bi, own_bd, hc496, hc497, hc498]
          exact JM2_1 Tj (.val (.ref m1)) (.val (.int (2 : Int32))) Xj ej (Or.inr ⟨_, rfl, rfl⟩) (Or.inr ⟨_, rfl, rfl⟩) (hR.trans (congrArg (own_fold []) hst))
        · refine E.ifN (q := 115) Xj hx (hb hby d10_112) (XT.i0_lt_f hc498) ?_
          refine E.aload (q := 117) Xj hx (hb hby d10_115) rfl rfl ?_
          refine E.iload (q := 119) Xj hx (hb hby d10_117) rfl ?_
          refine Ends.dld Xj hx hZ ej A_m1 (i := 1) rfl rfl (hb hby d10_119) ?_
          refine E.ldc2D (q := 123) Xj hx hZ hown (hw _ (List.mem_of_getElem? (i := 76) rfl)) (hb hby d10_120) ?_
          refine E.dcmp (q := 124) Xj hx (hb hby d10_123) ?_
          by_cases hc499 : (0 : Int32) < (cmpValue (FP.dcmp y11 (9218868437227405311 : UInt64)) .g)
          · refine E.ifN (q := 127) Xj hx (hb hby d10_124) (XT.i0_le_f hc499) ?_
            refine E.iload (q := 129) Xj hx (hb hby d10_127) rfl ?_
            refine E.istoreN (q := 130) (l' := #[.val (.ref oa), .val (.ref ob), .val (.int (1 : Int32)), .val (.ref mA), .val (.int (2 : Int32)), .val (.int (1 : Int32)), .val (.ref m1), .val (.int (1 : Int32))]) Xj hx (hb hby d10_129) rfl ?_
            refine E.iinc (q := 133) (v := (2 : Int32)) (l' := #[.val (.ref oa), .val (.ref ob), .val (.int (1 : Int32)), .val (.ref mA), .val (.int (2 : Int32)), .val (.int (1 : Int32)), .val (.ref m1), .val (.int (2 : Int32))]) Xj hx (hb hby d10_130) rfl (by decide) rfl ?_
            refine E.goto (q := 97) Xj hx (hb hby d10_133) ?_
            refine E.iload (q := 99) Xj hx (hb hby d10_97) rfl ?_
            refine E.iloadN (q := 100) Xj hx (hb hby d10_99) rfl ?_
            refine E.icmpY (q := 136) Xj hx (hb hby d10_100) (XT.ii_ge_t (by decide)) ?_
            refine E.iinc (q := 139) (v := (2 : Int32)) (l' := #[.val (.ref oa), .val (.ref ob), .val (.int (1 : Int32)), .val (.ref mA), .val (.int (2 : Int32)), .val (.int (2 : Int32)), .val (.ref m1), .val (.int (2 : Int32))]) Xj hx (hb hby d10_136) rfl (by decide) rfl ?_
            refine E.goto (q := 81) Xj hx (hb hby d10_139) ?_
            have hst : own_st C5 (2 : Int32) = (1 : Int32) := by rw [hC5]; simp [own_st, own_bi, own_bd, hc496, hc497, hc498, hc499]
            exact JM2_1 Tj (.val (.ref m1)) (.val (.int (2 : Int32))) Xj ej (Or.inr ⟨_, rfl, rfl⟩) (Or.inr ⟨_, rfl, rfl⟩) (hR.trans (congrArg (own_fold []) hst))
          · refine E.ifY (q := 130) Xj hx (hb hby d10_124) (XT.i0_le_t hc499) ?_
            refine E.iinc (q := 133) (v := (2 : Int32)) (l' := #[.val (.ref oa), .val (.ref ob), .val (.int (2 : Int32)), .val (.ref mA), .val (.int (2 : Int32)), .val (.int (1 : Int32)), .val (.ref m1), .val (.int (2 : Int32))]) Xj hx (hb hby d10_130) rfl (by decide) rfl ?_
            refine E.goto (q := 97) Xj hx (hb hby d10_133) ?_
            refine E.iload (q := 99) Xj hx (hb hby d10_97) rfl ?_
            refine E.iloadN (q := 100) Xj hx (hb hby d10_99) rfl ?_
            refine E.icmpY (q := 136) Xj hx (hb hby d10_100) (XT.ii_ge_t (by decide)) ?_
            refine E.iinc (q := 139) (v := (2 : Int32)) (l' := #[.val (.ref oa), .val (.ref ob), .val (.int (2 : Int32)), .val (.ref mA), .val (.int (2 : Int32)), .val (.int (2 : Int32)), .val (.ref m1), .val (.int (2 : Int32))]) Xj hx (hb hby d10_136) rfl (by decide) rfl ?_
            refine E.goto (q := 81) Xj hx (hb hby d10_139) ?_
            have hst : own_st C5 (2 : Int32) = (2 : Int32) := by rw [hC5]; simp [own_st, own_bi, own_bd, hc496, hc497, hc498, hc499]
            exact JM2_2 Tj (.val (.ref m1)) (.val (.int (2 : Int32))) Xj ej (Or.inr ⟨_, rfl, rfl⟩) (Or.inr ⟨_, rfl, rfl⟩) (hR.trans (congrArg (own_fold []) hst))
  have JM0_0 : ∀ (Tj : State) (s6 s7 : Slot), Stand p l e ({ frames := 0, cells := 0, slots := 0, locals := 0 } : Room) s m #[(.ref oa), (.ref ob)] below meth c Tj [] 0 0 → Tj.heap = h0 → (s6 = .unset ∨ ∃ w, s6 = .val w ∧ w.category = 1) → (s7 = .unset ∨ ∃ w, s7 = .val w ∧ w.category = 1) → own_fold [C0, C1, C2, C3, C4, C5] nz = own_fold [C4, C5] (0 : Int32) → Ends p e below s (fun v h L => v = some (.int (own_fold [C0, C1, C2, C3, C4, C5] nz)) ∧ h = h0 ∧ L = []) ({ frames := 0, cells := 0, slots := 0, locals := 0 } : Room).cells ({ frames := 0, cells := 0, slots := 0, locals := 0 } : Room).slots Tj (mkF m 81 #[.val (.ref oa), .val (.ref ob), .val (.int (0 : Int32)), .val (.ref mA), .val (.int (2 : Int32)), .val (.int (0 : Int32)), s6, s7] []) := by
    intro Tj s6 s7 Xj ej hs6 hs7 hR
    refine E.iload (q := 83) Xj hx (hb hby d10_81) rfl ?_
    refine E.iload (q := 85) Xj hx (hb hby d10_83) rfl ?_
    refine E.icmpN (q := 88) Xj hx (hb hby d10_85) (XT.ii_ge_f (by decide)) ?_
    refine E.aloadN (q := 89) Xj hx (hb hby d10_88) rfl rfl ?_
    refine E.iload (q := 91) Xj hx (hb hby d10_89) rfl ?_
    refine Ends.ald Xj hx hZ ej A_mA rfl (i := 0) rfl rfl (hb hby d10_91) ?_
    refine E.astore (q := 94) (l' := #[.val (.ref oa), .val (.ref ob), .val (.int (0 : Int32)), .val (.ref mA), .val (.int (2 : Int32)), .val (.int (0 : Int32)), .val (.ref m0), s7]) Xj hx (hb hby d10_92) rfl (XS.store1 rfl hs6 rfl) ?_
    refine E.iconst (q := 95) (v := (0 : Int32)) Xj hx (hb hby d10_94) rfl ?_
    refine E.istore (q := 97) (l' := #[.val (.ref oa), .val (.ref ob), .val (.int (0 : Int32)), .val (.ref mA), .val (.int (2 : Int32)), .val (.int (0 : Int32)), .val (.ref m0), .val (.int (0 : Int32))]) Xj hx (hb hby d10_95) (XS.store1 rfl hs7 rfl) ?_
    refine E.iload (q := 99) Xj hx (hb hby d10_97) rfl ?_
    refine E.iloadN (q := 100) Xj hx (hb hby d10_99) rfl ?_
    refine E.icmpY (q := 136) Xj hx (hb hby d10_100) (XT.ii_ge_t (by decide)) ?_
    refine E.iinc (q := 139) (v := (1 : Int32)) (l' := #[.val (.ref oa), .val (.ref ob), .val (.int (0 : Int32)), .val (.ref mA), .val (.int (2 : Int32)), .val (.int (1 : Int32)), .val (.ref m0), .val (.int (0 : Int32))]) Xj hx (hb hby d10_136) rfl (by decide) rfl ?_
    refine E.goto (q := 81) Xj hx (hb hby d10_139) ?_
    have hst : own_st C4 (0 : Int32) = (0 : Int32) := by rw [hC4]; simp [own_st, own_bi, own_bd]
    exact JM1_0 Tj (.val (.ref m0)) (.val (.int (0 : Int32))) Xj ej (Or.inr ⟨_, rfl, rfl⟩) (Or.inr ⟨_, rfl, rfl⟩) (hR.trans (congrArg (own_fold [C5]) hst))
  have JM0_1 : ∀ (Tj : State) (s6 s7 : Slot), Stand p l e ({ frames := 0, cells := 0, slots := 0, locals := 0 } : Room) s m #[(.ref oa), (.ref ob)] below meth c Tj [] 0 0 → Tj.heap = h0 → (s6 = .unset ∨ ∃ w, s6 = .val w ∧ w.category = 1) → (s7 = .unset ∨ ∃ w, s7 = .val w ∧ w.category = 1) → own_fold [C0, C1, C2, C3, C4, C5] nz = own_fold [C4, C5] (1 : Int32) → Ends p e below s (fun v h L => v = some (.int (own_fold [C0, C1, C2, C3, C4, C5] nz)) ∧ h = h0 ∧ L = []) ({ frames := 0, cells := 0, slots := 0, locals := 0 } : Room).cells ({ frames := 0, cells := 0, slots := 0, locals := 0 } : Room).slots Tj (mkF m 81 #[.val (.ref oa), .val (.ref ob), .val (.int (1 : Int32)), .val (.ref mA), .val (.int (2 : Int32)), .val (.int (0 : Int32)), s6, s7] []) := by
    intro Tj s6 s7 Xj ej hs6 hs7 hR
    refine E.iload (q := 83) Xj hx (hb hby d10_81) rfl ?_
    refine E.iload (q := 85) Xj hx (hb hby d10_83) rfl ?_
    refine E.icmpN (q := 88) Xj hx (hb hby d10_85) (XT.ii_ge_f (by decide)) ?_
    refine E.aloadN (q := 89) Xj hx (hb hby d10_88) rfl rfl ?_
    refine E.iload (q := 91) Xj hx (hb hby d10_89) rfl ?_
    refine Ends.ald Xj hx hZ ej A_mA rfl (i := 0) rfl rfl (hb hby d10_91) ?_
    refine E.astore (q := 94) (l' := #[.val (.ref oa), .val (.ref ob), .val (.int (1 : Int32)), .val (.ref mA), .val (.int (2 : Int32)), .val (.int (0 : Int32)), .val (.ref m0), s7]) Xj hx (hb hby d10_92) rfl (XS.store1 rfl hs6 rfl) ?_
    refine E.iconst (q := 95) (v := (0 : Int32)) Xj hx (hb hby d10_94) rfl ?_
    refine E.istore (q := 97) (l' := #[.val (.ref oa), .val (.ref ob), .val (.int (1 : Int32)), .val (.ref mA), .val (.int (2 : Int32)), .val (.int (0 : Int32)), .val (.ref m0), .val (.int (0 : Int32))]) Xj hx (hb hby d10_95) (XS.store1 rfl hs7 rfl) ?_
    refine E.iload (q := 99) Xj hx (hb hby d10_97) rfl ?_
    refine E.iloadN (q := 100) Xj hx (hb hby d10_99) rfl ?_
    refine E.icmpN (q := 103) Xj hx (hb hby d10_100) (XT.ii_ge_f (by decide)) ?_
    refine E.aload (q := 105) Xj hx (hb hby d10_103) rfl rfl ?_
    refine E.iload (q := 107) Xj hx (hb hby d10_105) rfl ?_
    refine Ends.dld Xj hx hZ ej A_m0 (i := 0) rfl rfl (hb hby d10_107) ?_
    refine E.ldc2D (q := 111) Xj hx hZ hown (hw _ (List.mem_of_getElem? (i := 75) rfl)) (hb hby d10_108) ?_
    refine E.dcmp (q := 112) Xj hx (hb hby d10_111) ?_
    by_cases hc500 : (cmpValue (FP.dcmp y00 (18442240474082181119 : UInt64)) .l) < (0 : Int32)
    · refine E.ifY (q := 127) Xj hx (hb hby d10_112) (XT.i0_lt_t hc500) ?_
      refine E.iload (q := 129) Xj hx (hb hby d10_127) rfl ?_
      refine E.istoreN (q := 130) (l' := #[.val (.ref oa), .val (.ref ob), .val (.int (0 : Int32)), .val (.ref mA), .val (.int (2 : Int32)), .val (.int (0 : Int32)), .val (.ref m0), .val (.int (0 : Int32))]) Xj hx (hb hby d10_129) rfl ?_
      refine E.iinc (q := 133) (v := (1 : Int32)) (l' := #[.val (.ref oa), .val (.ref ob), .val (.int (0 : Int32)), .val (.ref mA), .val (.int (2 : Int32)), .val (.int (0 : Int32)), .val (.ref m0), .val (.int (1 : Int32))]) Xj hx (hb hby d10_130) rfl (by decide) rfl ?_
      refine E.goto (q := 97) Xj hx (hb hby d10_133) ?_
      refine E.iload (q := 99) Xj hx (hb hby d10_97) rfl ?_
      refine E.iloadN (q := 100) Xj hx (hb hby d10_99) rfl ?_
      refine E.icmpY (q := 136) Xj hx (hb hby d10_100) (XT.ii_ge_t (by decide)) ?_
      refine E.iinc (q := 139) (v := (1 : Int32)) (l' := #[.val (.ref oa), .val (.ref ob), .val (.int (0 : Int32)), .val (.ref mA), .val (.int (2 : Int32)), .val (.int (1 : Int32)), .val (.ref m0), .val (.int (1 : Int32))]) Xj hx (hb hby d10_136) rfl (by decide) rfl ?_
      refine E.goto (q := 81) Xj hx (hb hby d10_139) ?_
      have hst : own_st C4 (1 : Int32) = (0 : Int32) := by rw [hC4]; simp [own_st, own_bi, own_bd, hc500]
      exact JM1_0 Tj (.val (.ref m0)) (.val (.int (1 : Int32))) Xj ej (Or.inr ⟨_, rfl, rfl⟩) (Or.inr ⟨_, rfl, rfl⟩) (hR.trans (congrArg (own_fold [C5]) hst))
    · refine E.ifN (q := 115) Xj hx (hb hby d10_112) (XT.i0_lt_f hc500) ?_
      refine E.aload (q := 117) Xj hx (hb hby d10_115) rfl rfl ?_
      refine E.iload (q := 119) Xj hx (hb hby d10_117) rfl ?_
      refine Ends.dld Xj hx hZ ej A_m0 (i := 0) rfl rfl (hb hby d10_119) ?_
      refine E.ldc2D (q := 123) Xj hx hZ hown (hw _ (List.mem_of_getElem? (i := 76) rfl)) (hb hby d10_120) ?_
      refine E.dcmp (q := 124) Xj hx (hb hby d10_123) ?_
      by_cases hc501 : (0 : Int32) < (cmpValue (FP.dcmp y00 (9218868437227405311 : UInt64)) .g)
      · refine E.ifN (q := 127) Xj hx (hb hby d10_124) (XT.i0_le_f hc501) ?_
        refine E.iload (q := 129) Xj hx (hb hby d10_127) rfl ?_
        refine E.istoreN (q := 130) (l' := #[.val (.ref oa), .val (.ref ob), .val (.int (0 : Int32)), .val (.ref mA), .val (.int (2 : Int32)), .val (.int (0 : Int32)), .val (.ref m0), .val (.int (0 : Int32))]) Xj hx (hb hby d10_129) rfl ?_
        refine E.iinc (q := 133) (v := (1 : Int32)) (l' := #[.val (.ref oa), .val (.ref ob), .val (.int (0 : Int32)), .val (.ref mA), .val (.int (2 : Int32)), .val (.int (0 : Int32)), .val (.ref m0), .val (.int (1 : Int32))]) Xj hx (hb hby d10_130) rfl (by decide) rfl ?_
        refine E.goto (q := 97) Xj hx (hb hby d10_133) ?_
        refine E.iload (q := 99) Xj hx (hb hby d10_97) rfl ?_
        refine E.iloadN (q := 100) Xj hx (hb hby d10_99) rfl ?_
        refine E.icmpY (q := 136) Xj hx (hb hby d10_100) (XT.ii_ge_t (by decide)) ?_
        refine E.iinc (q := 139) (v := (1 : Int32)) (l' := #[.val (.ref oa), .val (.ref ob), .val (.int (0 : Int32)), .val (.ref mA), .val (.int (2 : Int32)), .val (.int (1 : Int32)), .val (.ref m0), .val (.int (1 : Int32))]) Xj hx (hb hby d10_136) rfl (by decide) rfl ?_
        refine E.goto (q := 81) Xj hx (hb hby d10_139) ?_
        have hst : own_st C4 (1 : Int32) = (0 : Int32) := by rw [hC4]; simp [own_st, own_bi, own_bd, hc500, hc501]
        exact JM1_0 Tj (.val (.ref m0)) (.val (.int (1 : Int32))) Xj ej (Or.inr ⟨_, rfl, rfl⟩) (Or.inr ⟨_, rfl, rfl⟩) (hR.trans (congrArg (own_fold [C5]) hst))
      · refine E.ifY (q := 130) Xj hx (hb hby d10_124) (XT.i0_le_t hc501) ?_
        refine E.iinc (q := 133) (v := (1 : Int32)) (l' := #[.val (.ref oa), .val (.ref ob), .val (.int (1 : Int32)), .val (.ref mA), .val (.int (2 : Int32)), .val (.int (0 : Int32)), .val (.ref m0), .val (.int (1 : Int32))]) Xj hx (hb hby d10_130) rfl (by decide) rfl ?_
        refine E.goto (q := 97) Xj hx (hb hby d10_133) ?_
        refine E.iload (q := 99) Xj hx (hb hby d10_97) rfl ?_
        refine E.iloadN (q := 100) Xj hx (hb hby d10_99) rfl ?_
        refine E.icmpY (q := 136) Xj hx (hb hby d10_100) (XT.ii_ge_t (by decide)) ?_
        refine E.iinc (q := 139) (v := (1 : Int32)) (l' := #[.val (.ref oa), .val (.ref ob), .val (.int (1 : Int32)), .val (.ref mA), .val (.int (2 : Int32)), .val (.int (1 : Int32)), .val (.ref m0), .val (.int (1 : Int32))]) Xj hx (hb hby d10_136) rfl (by decide) rfl ?_
        refine E.goto (q := 81) Xj hx (hb hby d10_139) ?_
        have hst : own_st C4 (1 : Int32) = (1 : Int32) := by rw [hC4]; simp [own_st, own_bi, own_bd, hc500, hc501]
        exact JM1_1 Tj (.val (.ref m0)) (.val (.int (1 : Int32))) Xj ej (Or.inr ⟨_, rfl, rfl⟩) (Or.inr ⟨_, rfl, rfl⟩) (hR.trans (congrArg (own_fold [C5]) hst))
  have JM0_2 : ∀ (Tj : State) (s6 s7 : Slot), Stand p l e ({ frames := 0, cells := 0, slots := 0, locals := 0 } : Room) s m #[(.ref oa), (.ref ob)] below meth c Tj [] 0 0 → Tj.heap = h0 → (s6 = .unset ∨ ∃ w, s6 = .val w ∧ w.category = 1) → (s7 = .unset ∨ ∃ w, s7 = .val w ∧ w.category = 1) → own_fold [C0, C1, C2, C3, C4, C5] nz = own_fold [C4, C5] (2 : Int32) → Ends p e below s (fun v h L => v = some (.int (own_fold [C0, C1, C2, C3, C4, C5] nz)) ∧ h = h0 ∧ L = []) ({ frames := 0, cells := 0, slots := 0, locals := 0 } : Room).cells ({ frames := 0, cells := 0, slots := 0, locals := 0 } : Room).slots Tj (mkF m 81 #[.val (.ref oa), .val (.ref ob), .val (.int (2 : Int32)), .val (.ref mA), .val (.int (2 : Int32)), .val (.int (0 : Int32)), s6, s7] []) := by
    intro Tj s6 s7 Xj ej hs6 hs7 hR
    refine E.iload (q := 83) Xj hx (hb hby d10_81) rfl ?_
    refine E.iload (q := 85) Xj hx (hb hby d10_83) rfl ?_
    refine E.icmpN (q := 88) Xj hx (hb hby d10_85) (XT.ii_ge_f (by decide)) ?_
    refine E.aloadN (q := 89) Xj hx (hb hby d10_88) rfl rfl ?_
    refine E.iload (q := 91) Xj hx (hb hby d10_89) rfl ?_
    refine Ends.ald Xj hx hZ ej A_mA rfl (i := 0) rfl rfl (hb hby d10_91) ?_
    refine E.astore (q := 94) (l' := #[.val (.ref oa), .val (.ref ob), .val (.int (2 : Int32)), .val (.ref mA), .val (.int (2 : Int32)), .val (.int (0 : Int32)), .val (.ref m0), s7]) Xj hx (hb hby d10_92) rfl (XS.store1 rfl hs6 rfl) ?_
    refine E.iconst (q := 95) (v := (0 : Int32)) Xj hx (hb hby d10_94) rfl ?_
    refine E.istore (q := 97) (l' := #[.val (.ref oa), .val (.ref ob), .val (.int (2 : Int32)), .val (.ref mA), .val (.int (2 : Int32)), .val (.int (0 : Int32)), .val (.ref m0), .val (.int (0 : Int32))]) Xj hx (hb hby d10_95) (XS.store1 rfl hs7 rfl) ?_
    refine E.iload (q := 99) Xj hx (hb hby d10_97) rfl ?_
    refine E.iloadN (q := 100) Xj hx (hb hby d10_99) rfl ?_
    refine E.icmpN (q := 103) Xj hx (hb hby d10_100) (XT.ii_ge_f (by decide)) ?_
    refine E.aload (q := 105) Xj hx (hb hby d10_103) rfl rfl ?_
    refine E.iload (q := 107) Xj hx (hb hby d10_105) rfl ?_
    refine Ends.dld Xj hx hZ ej A_m0 (i := 0) rfl rfl (hb hby d10_107) ?_
    refine E.ldc2D (q := 111) Xj hx hZ hown (hw _ (List.mem_of_getElem? (i := 75) rfl)) (hb hby d10_108) ?_
    refine E.dcmp (q := 112) Xj hx (hb hby d10_111) ?_
    by_cases hc502 : (cmpValue (FP.dcmp y00 (18442240474082181119 : UInt64)) .l) < (0 : Int32)
    · refine E.ifY (q := 127) Xj hx (hb hby d10_112) (XT.i0_lt_t hc502) ?_
      refine E.iload (q := 129) Xj hx (hb hby d10_127) rfl ?_
      refine E.istoreN (q := 130) (l' := #[.val (.ref oa), .val (.ref ob), .val (.int (0 : Int32)), .val (.ref mA), .val (.int (2 : Int32)), .val (.int (0 : Int32)), .val (.ref m0), .val (.int (0 : Int32))]) Xj hx (hb hby d10_129) rfl ?_
      refine E.iinc (q := 133) (v := (1 : Int32)) (l' := #[.val (.ref oa), .val (.ref ob), .val (.int (0 : Int32)), .val (.ref mA), .val (.int (2 : Int32)), .val (.int (0 : Int32)), .val (.ref m0), .val (.int (1 : Int32))]) Xj hx (hb hby d10_130) rfl (by decide) rfl ?_
      refine E.goto (q := 97) Xj hx (hb hby d10_133) ?_
      refine E.iload (q := 99) Xj hx (hb hby d10_97) rfl ?_
      refine E.iloadN (q := 100) Xj hx (hb hby d10_99) rfl ?_
      refine E.icmpY (q := 136) Xj hx (hb hby d10_100) (XT.ii_ge_t (by decide)) ?_
      refine E.iinc (q := 139) (v := (1 : Int32)) (l' := #[.val (.ref oa), .val (.ref ob), .val (.int (0 : Int32)), .val (.ref mA), .val (.int (2 : Int32)), .val (.int (1 : Int32)), .val (.ref m0), .val (.int (1 : Int32))]) Xj hx (hb hby d10_136) rfl (by decide) rfl ?_
      refine E.goto (q := 81) Xj hx (hb hby d10_139) ?_
      have hst : own_st C4 (2 : Int32) = (0 : Int32) := by rw [hC4]; simp [own_st, own_bi, own_bd, hc502]
      exact JM1_0 Tj (.val (.ref m0)) (.val (.int (1 : Int32))) Xj ej (Or.inr ⟨_, rfl, rfl⟩) (Or.inr ⟨_, rfl, rfl⟩) (hR.trans (congrArg (own_fold [C5]) hst))
    · refine E.ifN (q := 115) Xj hx (hb hby d10_112) (XT.i0_lt_f hc502) ?_
      refine E.aload (q := 117) Xj hx (hb hby d10_115) rfl rfl ?_
      refine E.iload (q := 119) Xj hx (hb hby d10_117) rfl ?_
      refine Ends.dld Xj hx hZ ej A_m0 (i := 0) rfl rfl (hb hby d10_119) ?_
      refine E.ldc2D (q := 123) Xj hx hZ hown (hw _ (List.mem_of_getElem? (i := 76) rfl)) (hb hby d10_120) ?_
      refine E.dcmp (q := 124) Xj hx (hb hby d10_123) ?_
      by_cases hc503 : (0 : Int32) < (cmpValue (FP.dcmp y00 (9218868437227405311 : UInt64)) .g)
      · refine E.ifN (q := 127) Xj hx (hb hby d10_124) (XT.i0_le_f hc503) ?_
        refine E.iload (q := 129) Xj hx (hb hby d10_127) rfl ?_
        refine E.istoreN (q := 130) (l' := #[.val (.ref oa), .val (.ref ob), .val (.int (0 : Int32)), .val (.ref mA), .val (.int (2 : Int32)), .val (.int (0 : Int32)), .val (.ref m0), .val (.int (0 : Int32))]) Xj hx (hb hby d10_129) rfl ?_
        refine E.iinc (q := 133) (v := (1 : Int32)) (l' := #[.val (.ref oa), .val (.ref ob), .val (.int (0 : Int32)), .val (.ref mA), .val (.int (2 : Int32)), .val (.int (0 : Int32)), .val (.ref m0), .val (.int (1 : Int32))]) Xj hx (hb hby d10_130) rfl (by decide) rfl ?_
        refine E.goto (q := 97) Xj hx (hb hby d10_133) ?_
        refine E.iload (q := 99) Xj hx (hb hby d10_97) rfl ?_
        refine E.iloadN (q := 100) Xj hx (hb hby d10_99) rfl ?_
        refine E.icmpY (q := 136) Xj hx (hb hby d10_100) (XT.ii_ge_t (by decide)) ?_
        refine E.iinc (q := 139) (v := (1 : Int32)) (l' := #[.val (.ref oa), .val (.ref ob), .val (.int (0 : Int32)), .val (.ref mA), .val (.int (2 : Int32)), .val (.int (1 : Int32)), .val (.ref m0), .val (.int (1 : Int32))]) Xj hx (hb hby d10_136) rfl (by decide) rfl ?_
        refine E.goto (q := 81) Xj hx (hb hby d10_139) ?_
        have hst : own_st C4 (2 : Int32) = (0 : Int32) := by rw [hC4]; simp [own_st, own_bi, own_bd, hc502, hc503]
        exact JM1_0 Tj (.val (.ref m0)) (.val (.int (1 : Int32))) Xj ej (Or.inr ⟨_, rfl, rfl⟩) (Or.inr ⟨_, rfl, rfl⟩) (hR.trans (congrArg (own_fold [C5]) hst))
      · refine E.ifY (q := 130) Xj hx (hb hby d10_124) (XT.i0_le_t hc503) ?_
        refine E.iinc (q := 133) (v := (1 : Int32)) (l' := #[.val (.ref oa), .val (.ref ob), .val (.int (2 : Int32)), .val (.ref mA), .val (.int (2 : Int32)), .val (.int (0 : Int32)), .val (.ref m0), .val (.int (1 : Int32))]) Xj hx (hb hby d10_130) rfl (by decide) rfl ?_
        refine E.goto (q := 97) Xj hx (hb hby d10_133) ?_
        refine E.iload (q := 99) Xj hx (hb hby d10_97) rfl ?_
        refine E.iloadN (q := 100) Xj hx (hb hby d10_99) rfl ?_
        refine E.icmpN (q := 103) Xj hx (hb hby d10_100) (XT.ii_ge_f (by decide)) ?_
        refine E.aload (q := 105) Xj hx (hb hby d10_103) rfl rfl ?_
        refine E.iload (q := 107) Xj hx (hb hby d10_105) rfl ?_
        refine Ends.dld Xj hx hZ ej A_m0 (i := 1) rfl rfl (hb hby d10_107) ?_
        refine E.ldc2D (q := 111) Xj hx hZ hown (hw _ (List.mem_of_getElem? (i := 75) rfl)) (hb hby d10_108) ?_
        refine E.dcmp (q := 112) Xj hx (hb hby d10_111) ?_
        by_cases hc504 : (cmpValue (FP.dcmp y01 (18442240474082181119 : UInt64)) .l) < (0 : Int32)
        · refine E.ifY (q := 127) Xj hx (hb hby d10_112) (XT.i0_lt_t hc504) ?_
          refine E.iload (q := 129) Xj hx (hb hby d10_127) rfl ?_
          refine E.istoreN (q := 130) (l' := #[.val (.ref oa), .val (.ref ob), .val (.int (1 : Int32)), .val (.ref mA), .val (.int (2 : Int32)), .val (.int (0 : Int32)), .val (.ref m0), .val (.int (1 : Int32))]) Xj hx (hb hby d10_129) rfl ?_
          refine E.iinc (q := 133) (v := (2 : Int32)) (l' := #[.val (.ref oa), .val (.ref ob), .val (.int (1 : Int32)), .val (.ref mA), .val (.int (2 : Int32)), .val (.int (0 : Int32)), .val (.ref m0), .val (.int (2 : Int32))]) Xj hx (hb hby d10_130) rfl (by decide) rfl ?_
          refine E.goto (q := 97) Xj hx (hb hby d10_133) ?_
          refine E.iload (q := 99) Xj hx (hb hby d10_97) rfl ?_
          refine E.iloadN (q := 100) Xj hx (hb hby d10_99) rfl ?_
          refine E.icmpY (q := 136) Xj hx (hb hby d10_100) (XT.ii_ge_t (by decide)) ?_
          refine E.iinc (q := 139) (v := (1 : Int32)) (l' := #[.val (.ref oa), .val (.ref ob), .val (.int (1 : Int32)), .val (.ref mA), .val (.int (2 : Int32)), .val (.int (1 : Int32)), .val (.ref m0), .val (.int (2 : Int32))]) Xj hx (hb hby d10_136) rfl (by decide) rfl ?_
          refine E.goto (q := 81) Xj hx (hb hby d10_139) ?_
          have hst : own_st C4 (2 : Int32) = (1 : Int32) := by rw [hC4]; simp [own_st, own_bi, own_bd, hc502, hc503, hc504]
          exact JM1_1 Tj (.val (.ref m0)) (.val (.int (2 : Int32))) Xj ej (Or.inr ⟨_, rfl, rfl⟩) (Or.inr ⟨_, rfl, rfl⟩) (hR.trans (congrArg (own_fold [C5]) hst))
        · refine E.ifN (q := 115) Xj hx (hb hby d10_112) (XT.i0_lt_f hc504) ?_
          refine E.aload (q := 117) Xj hx (hb hby d10_115) rfl rfl ?_
          refine E.iload (q := 119) Xj hx (hb hby d10_117) rfl ?_
          refine Ends.dld Xj hx hZ ej A_m0 (i := 1) rfl rfl (hb hby d10_119) ?_
          refine E.ldc2D (q := 123) Xj hx hZ hown (hw _ (List.mem_of_getElem? (i := 76) rfl)) (hb hby d10_120) ?_
          refine E.dcmp (q := 124) Xj hx (hb hby d10_123) ?_
          by_cases hc505 : (0 : Int32) < (cmpValue (FP.dcmp y01 (9218868437227405311 : UInt64)) .g)
          · refine E.ifN (q := 127) Xj hx (hb hby d10_124) (XT.i0_le_f hc505) ?_
            refine E.iload (q := 129) Xj hx (hb hby d10_127) rfl ?_
            refine E.istoreN (q := 130) (l' := #[.val (.ref oa), .val (.ref ob), .val (.int (1 : Int32)), .val (.ref mA), .val (.int (2 : Int32)), .val (.int (0 : Int32)), .val (.ref m0), .val (.int (1 : Int32))]) Xj hx (hb hby d10_129) rfl ?_
            refine E.iinc (q := 133) (v := (2 : Int32)) (l' := #[.val (.ref oa), .val (.ref ob), .val (.int (1 : Int32)), .val (.ref mA), .val (.int (2 : Int32)), .val (.int (0 : Int32)), .val (.ref m0), .val (.int (2 : Int32))]) Xj hx (hb hby d10_130) rfl (by decide) rfl ?_
            refine E.goto (q := 97) Xj hx (hb hby d10_133) ?_
            refine E.iload (q := 99) Xj hx (hb hby d10_97) rfl ?_
            refine E.iloadN (q := 100) Xj hx (hb hby d10_99) rfl ?_
            refine E.icmpY (q := 136) Xj hx (hb hby d10_100) (XT.ii_ge_t (by decide)) ?_
            refine E.iinc (q := 139) (v := (1 : Int32)) (l' := #[.val (.ref oa), .val (.ref ob), .val (.int (1 : Int32)), .val (.ref mA), .val (.int (2 : Int32)), .val (.int (1 : Int32)), .val (.ref m0), .val (.int (2 : Int32))]) Xj hx (hb hby d10_136) rfl (by decide) rfl ?_
            refine E.goto (q := 81) Xj hx (hb hby d10_139) ?_
            have hst : own_st C4 (2 : Int32) = (1 : Int32) := by rw [hC4]; simp [own_st, own_bi, own_bd, hc502, hc503, hc504, hc505]
            exact JM1_1 Tj (.val (.ref m0)) (.val (.int (2 : Int32))) Xj ej (Or.inr ⟨_, rfl, rfl⟩) (Or.inr ⟨_, rfl, rfl⟩) (hR.trans (congrArg (own_fold [C5]) hst))
          · refine E.ifY (q := 130) Xj hx (hb hby d10_124) (XT.i0_le_t hc505) ?_
            refine E.iinc (q := 133) (v := (2 : Int32)) (l' := #[.val (.ref oa), .val (.ref ob), .val (.int (2 : Int32)), .val (.ref mA), .val (.int (2 : Int32)), .val (.int (0 : Int32)), .val (.ref m0), .val (.int (2 : Int32))]) Xj hx (hb hby d10_130) rfl (by decide) rfl ?_
            refine E.goto (q := 97) Xj hx (hb hby d10_133) ?_
            refine E.iload (q := 99) Xj hx (hb hby d10_97) rfl ?_
            refine E.iloadN (q := 100) Xj hx (hb hby d10_99) rfl ?_
            refine E.icmpY (q := 136) Xj hx (hb hby d10_100) (XT.ii_ge_t (by decide)) ?_
            refine E.iinc (q := 139) (v := (1 : Int32)) (l' := #[.val (.ref oa), .val (.ref ob), .val (.int (2 : Int32)), .val (.ref mA), .val (.int (2 : Int32)), .val (.int (1 : Int32)), .val (.ref m0), .val (.int (2 : Int32))]) Xj hx (hb hby d10_136) rfl (by decide) rfl ?_
            refine E.goto (q := 81) Xj hx (hb hby d10_139) ?_
            have hst : own_st C4 (2 : Int32) = (2 : Int32) := by rw [hC4]; simp [own_st, own_bi, own_bd, hc502, hc503, hc504, hc505]
            exact JM1_2 Tj (.val (.ref m0)) (.val (.int (2 : Int32))) Xj ej (Or.inr ⟨_, rfl, rfl⟩) (Or.inr ⟨_, rfl, rfl⟩) (hR.trans (congrArg (own_fold [C5]) hst))
  have JN4_0 : ∀ (Tj : State) (s4 s5 s6 s7 : Slot), Stand p l e ({ frames := 0, cells := 0, slots := 0, locals := 0 } : Room) s m #[(.ref oa), (.ref ob)] below meth c Tj [] 0 0 → Tj.heap = h0 → (s4 = .unset ∨ ∃ w, s4 = .val w ∧ w.category = 1) → (s5 = .unset ∨ ∃ w, s5 = .val w ∧ w.category = 1) → (s6 = .unset ∨ ∃ w, s6 = .val w ∧ w.category = 1) → (s7 = .unset ∨ ∃ w, s7 = .val w ∧ w.category = 1) → own_fold [C0, C1, C2, C3, C4, C5] nz = own_fold [C4, C5] (0 : Int32) → Ends p e below s (fun v h L => v = some (.int (own_fold [C0, C1, C2, C3, C4, C5] nz)) ∧ h = h0 ∧ L = []) ({ frames := 0, cells := 0, slots := 0, locals := 0 } : Room).cells ({ frames := 0, cells := 0, slots := 0, locals := 0 } : Room).slots Tj (mkF m 7 #[.val (.ref oa), .val (.ref ob), .val (.int (0 : Int32)), .val (.int (4 : Int32)), s4, s5, s6, s7] []) := by
    intro Tj s4 s5 s6 s7 Xj ej hs4 hs5 hs6 hs7 hR
    refine E.iloadN (q := 8) Xj hx (hb hby d10_7) rfl ?_
    refine Ends.getS Xj hx hZ hown (host := "") (Or.inl (hw _ (List.mem_of_getElem? (i := 14) rfl))) Via.refl ej (own_sta_keep S0 O0.1 own_ns0) (hb hby d10_8) ?_
    intro T506 X506 e506
    refine E.icmpY (q := 69) X506 hx (hb hby d10_11) (XT.ii_ge_t (by decide)) ?_
    refine E.aloadN (q := 70) X506 hx (hb hby d10_69) rfl rfl ?_
    refine Ends.getF X506 hx hZ hown (host := "") (Or.inl (hw _ (List.mem_of_getElem? (i := 28) rfl))) Via.refl e506 F_m (hb hby d10_70) ?_
    intro T507 X507 e507
    refine E.astoreN (q := 74) (l' := #[.val (.ref oa), .val (.ref ob), .val (.int (0 : Int32)), .val (.ref mA), s4, s5, s6, s7]) X507 hx (hb hby d10_73) rfl rfl ?_
    refine E.aloadN (q := 75) X507 hx (hb hby d10_74) rfl rfl ?_
    refine Ends.alen X507 hx hZ e507 A_mA (hb hby d10_75) (n := (2 : Int32)) rfl ?_
    refine E.istore (q := 78) (l' := #[.val (.ref oa), .val (.ref ob), .val (.int (0 : Int32)), .val (.ref mA), .val (.int (2 : Int32)), s5, s6, s7]) X507 hx (hb hby d10_76) (XS.store1 rfl hs4 rfl) ?_
    refine E.iconst (q := 79) (v := (0 : Int32)) X507 hx (hb hby d10_78) rfl ?_
    refine E.istore (q := 81) (l' := #[.val (.ref oa), .val (.ref ob), .val (.int (0 : Int32)), .val (.ref mA), .val (.int (2 : Int32)), .val (.int (0 : Int32)), s6, s7]) X507 hx (hb hby d10_79) (XS.store1 rfl hs5 rfl) ?_
    exact JM0_0 T507 s6 s7 X507 e507 hs6 hs7 hR
  have JN4_1 : ∀ (Tj : State) (s4 s5 s6 s7 : Slot), Stand p l e ({ frames := 0, cells := 0, slots := 0, locals := 0 } : Room) s m #[(.ref oa), (.ref ob)] below meth c Tj [] 0 0 → Tj.heap = h0 → (s4 = .unset ∨ ∃ w, s4 = .val w ∧ w.category = 1) → (s5 = .unset ∨ ∃ w, s5 = .val w ∧ w.category = 1) → (s6 = .unset ∨ ∃ w, s6 = .val w ∧ w.category = 1) → (s7 = .unset ∨ ∃ w, s7 = .val w ∧ w.category = 1) → own_fold [C0, C1, C2, C3, C4, C5] nz = own_fold [C4, C5] (1 : Int32) → Ends p e below s (fun v h L => v = some (.int (own_fold [C0, C1, C2, C3, C4, C5] nz)) ∧ h = h0 ∧ L = []) ({ frames := 0, cells := 0, slots := 0, locals := 0 } : Room).cells ({ frames := 0, cells := 0, slots := 0, locals := 0 } : Room).slots Tj (mkF m 7 #[.val (.ref oa), .val (.ref ob), .val (.int (1 : Int32)), .val (.int (4 : Int32)), s4, s5, s6, s7] []) := by
    intro Tj s4 s5 s6 s7 Xj ej hs4 hs5 hs6 hs7 hR
    refine E.iloadN (q := 8) Xj hx (hb hby d10_7) rfl ?_
    refine Ends.getS Xj hx hZ hown (host := "") (Or.inl (hw _ (List.mem_of_getElem? (i := 14) rfl))) Via.refl ej (own_sta_keep S0 O0.1 own_ns0) (hb hby d10_8) ?_
    intro T508 X508 e508
    refine E.icmpY (q := 69) X508 hx (hb hby d10_11) (XT.ii_ge_t (by decide)) ?_
    refine E.aloadN (q := 70) X508 hx (hb hby d10_69) rfl rfl ?_
    refine Ends.getF X508 hx hZ hown (host := "") (Or.inl (hw _ (List.mem_of_getElem? (i := 28) rfl))) Via.refl e508 F_m (hb hby d10_70) ?_
    intro T509 X509 e509
    refine E.astoreN (q := 74) (l' := #[.val (.ref oa), .val (.ref ob), .val (.int (1 : Int32)), .val (.ref mA), s4, s5, s6, s7]) X509 hx (hb hby d10_73) rfl rfl ?_
    refine E.aloadN (q := 75) X509 hx (hb hby d10_74) rfl rfl ?_
    refine Ends.alen X509 hx hZ e509 A_mA (hb hby d10_75) (n := (2 : Int32)) rfl ?_
    refine E.istore (q := 78) (l' := #[.val (.ref oa), .val (.ref ob), .val (.int (1 : Int32)), .val (.ref mA), .val (.int (2 : Int32)), s5, s6, s7]) X509 hx (hb hby d10_76) (XS.store1 rfl hs4 rfl) ?_
    refine E.iconst (q := 79) (v := (0 : Int32)) X509 hx (hb hby d10_78) rfl ?_
    refine E.istore (q := 81) (l' := #[.val (.ref oa), .val (.ref ob), .val (.int (1 : Int32)), .val (.ref mA), .val (.int (2 : Int32)), .val (.int (0 : Int32)), s6, s7]) X509 hx (hb hby d10_79) (XS.store1 rfl hs5 rfl) ?_
    exact JM0_1 T509 s6 s7 X509 e509 hs6 hs7 hR
  have JN4_2 : ∀ (Tj : State) (s4 s5 s6 s7 : Slot), Stand p l e ({ frames := 0, cells := 0, slots := 0, locals := 0 } : Room) s m #[(.ref oa), (.ref ob)] below meth c Tj [] 0 0 → Tj.heap = h0 → (s4 = .unset ∨ ∃ w, s4 = .val w ∧ w.category = 1) → (s5 = .unset ∨ ∃ w, s5 = .val w ∧ w.category = 1) → (s6 = .unset ∨ ∃ w, s6 = .val w ∧ w.category = 1) → (s7 = .unset ∨ ∃ w, s7 = .val w ∧ w.category = 1) → own_fold [C0, C1, C2, C3, C4, C5] nz = own_fold [C4, C5] (2 : Int32) → Ends p e below s (fun v h L => v = some (.int (own_fold [C0, C1, C2, C3, C4, C5] nz)) ∧ h = h0 ∧ L = []) ({ frames := 0, cells := 0, slots := 0, locals := 0 } : Room).cells ({ frames := 0, cells := 0, slots := 0, locals := 0 } : Room).slots Tj (mkF m 7 #[.val (.ref oa), .val (.ref ob), .val (.int (2 : Int32)), .val (.int (4 : Int32)), s4, s5, s6, s7] []) := by
    intro Tj s4 s5 s6 s7 Xj ej hs4 hs5 hs6 hs7 hR
    refine E.iloadN (q := 8) Xj hx (hb hby d10_7) rfl ?_
    refine Ends.getS Xj hx hZ hown (host := "") (Or.inl (hw _ (List.mem_of_getElem? (i := 14) rfl))) Via.refl ej (own_sta_keep S0 O0.1 own_ns0) (hb hby d10_8) ?_
    intro T510 X510 e510
    refine E.icmpY (q := 69) X510 hx (hb hby d10_11) (XT.ii_ge_t (by decide)) ?_
    refine E.aloadN (q := 70) X510 hx (hb hby d10_69) rfl rfl ?_
    refine Ends.getF X510 hx hZ hown (host := "") (Or.inl (hw _ (List.mem_of_getElem? (i := 28) rfl))) Via.refl e510 F_m (hb hby d10_70) ?_
    intro T511 X511 e511
    refine E.astoreN (q := 74) (l' := #[.val (.ref oa), .val (.ref ob), .val (.int (2 : Int32)), .val (.ref mA), s4, s5, s6, s7]) X511 hx (hb hby d10_73) rfl rfl ?_
    refine E.aloadN (q := 75) X511 hx (hb hby d10_74) rfl rfl ?_
    refine Ends.alen X511 hx hZ e511 A_mA (hb hby d10_75) (n := (2 : Int32)) rfl ?_
    refine E.istore (q := 78) (l' := #[.val (.ref oa), .val (.ref ob), .val (.int (2 : Int32)), .val (.ref mA), .val (.int (2 : Int32)), s5, s6, s7]) X511 hx (hb hby d10_76) (XS.store1 rfl hs4 rfl) ?_
    refine E.iconst (q := 79) (v := (0 : Int32)) X511 hx (hb hby d10_78) rfl ?_
    refine E.istore (q := 81) (l' := #[.val (.ref oa), .val (.ref ob), .val (.int (2 : Int32)), .val (.ref mA), .val (.int (2 : Int32)), .val (.int (0 : Int32)), s6, s7]) X511 hx (hb hby d10_79) (XS.store1 rfl hs5 rfl) ?_
    exact JM0_2 T511 s6 s7 X511 e511 hs6 hs7 hR
  have JN3_0 : ∀ (Tj : State) (s4 s5 s6 s7 : Slot), Stand p l e ({ frames := 0, cells := 0, slots := 0, locals := 0 } : Room) s m #[(.ref oa), (.ref ob)] below meth c Tj [] 0 0 → Tj.heap = h0 → (s4 = .unset ∨ ∃ w, s4 = .val w ∧ w.category = 1) → (s5 = .unset ∨ ∃ w, s5 = .val w ∧ w.category = 1) → (s6 = .unset ∨ ∃ w, s6 = .val w ∧ w.category = 1) → (s7 = .unset ∨ ∃ w, s7 = .val w ∧ w.category = 1) → own_fold [C0, C1, C2, C3, C4, C5] nz = own_fold [C3, C4, C5] (0 : Int32) → Ends p e below s (fun v h L => v = some (.int (own_fold [C0, C1, C2, C3, C4, C5] nz)) ∧ h = h0 ∧ L = []) ({ frames := 0, cells := 0, slots := 0, locals := 0 } : Room).cells ({ frames := 0, cells := 0, slots := 0, locals := 0 } : Room).slots Tj (mkF m 7 #[.val (.ref oa), .val (.ref ob), .val (.int (0 : Int32)), .val (.int (3 : Int32)), s4, s5, s6, s7] []) := by
    intro Tj s4 s5 s6 s7 Xj ej hs4 hs5 hs6 hs7 hR
    refine E.iloadN (q := 8) Xj hx (hb hby d10_7) rfl ?_
    refine Ends.getS Xj hx hZ hown (host := "") (Or.inl (hw _ (List.mem_of_getElem? (i := 14) rfl))) Via.refl ej (own_sta_keep S0 O0.1 own_ns0) (hb hby d10_8) ?_
    intro T512 X512 e512
    refine E.icmpN (q := 14) X512 hx (hb hby d10_11) (XT.ii_ge_f (by decide)) ?_
    refine E.aloadN (q := 15) X512 hx (hb hby d10_14) rfl rfl ?_
    refine Ends.getF X512 hx hZ hown (host := "") (Or.inl (hw _ (List.mem_of_getElem? (i := 26) rfl))) Via.refl e512 F_n (hb hby d10_15) ?_
    intro T513 X513 e513
    refine E.iloadN (q := 19) X513 hx (hb hby d10_18) rfl ?_
    refine Ends.ald X513 hx hZ e513 A_nA rfl (i := 3) rfl rfl (hb hby d10_19) ?_
    refine E.astore (q := 22) (l' := #[.val (.ref oa), .val (.ref ob), .val (.int (0 : Int32)), .val (.int (3 : Int32)), .val (.ref n3), s5, s6, s7]) X513 hx (hb hby d10_20) rfl (XS.store1 rfl hs4 rfl) ?_
    refine E.aloadN (q := 23) X513 hx (hb hby d10_22) rfl rfl ?_
    refine E.iloadN (q := 24) X513 hx (hb hby d10_23) rfl ?_
    refine Ends.ild X513 hx hZ e513 A_ob (i := 3) rfl rfl (hb hby d10_24) ?_
    refine E.istore (q := 27) (l' := #[.val (.ref oa), .val (.ref ob), .val (.int (0 : Int32)), .val (.int (3 : Int32)), .val (.ref n3), .val (.int bv3), s6, s7]) X513 hx (hb hby d10_25) (XS.store1 rfl hs5 rfl) ?_
    refine E.iconst (q := 28) (v := (0 : Int32)) X513 hx (hb hby d10_27) rfl ?_
    refine E.istore (q := 30) (l' := #[.val (.ref oa), .val (.ref ob), .val (.int (0 : Int32)), .val (.int (3 : Int32)), .val (.ref n3), .val (.int bv3), .val (.int (0 : Int32)), s7]) X513 hx (hb hby d10_28) (XS.store1 rfl hs6 rfl) ?_
    refine E.iload (q := 32) X513 hx (hb hby d10_30) rfl ?_
    refine E.iloadN (q := 33) X513 hx (hb hby d10_32) rfl ?_
    refine E.icmpY (q := 63) X513 hx (hb hby d10_33) (XT.ii_ge_t (by decide)) ?_
    refine E.iinc (q := 66) (v := (4 : Int32)) (l' := #[.val (.ref oa), .val (.ref ob), .val (.int (0 : Int32)), .val (.int (4 : Int32)), .val (.ref n3), .val (.int bv3), .val (.int (0 : Int32)), s7]) X513 hx (hb hby d10_63) rfl (by decide) rfl ?_
    refine E.goto (q := 7) X513 hx (hb hby d10_66) ?_
    have hst : own_st C3 (0 : Int32) = (0 : Int32) := by rw [hC3]; simp [own_st, own_bi, own_bd]
    exact JN4_0 T513 (.val (.ref n3)) (.val (.int bv3)) (.val (.int (0 : Int32))) s7 X513 e513 (Or.inr ⟨_, rfl, rfl⟩) (Or.inr ⟨_, rfl, rfl⟩) (Or.inr ⟨_, rfl, rfl⟩) hs7 (hR.trans (congrArg (own_fold [C4, C5]) hst))
  have JN3_1 : ∀ (Tj : State) (s4 s5 s6 s7 : Slot), Stand p l e ({ frames := 0, cells := 0, slots := 0, locals := 0 } : Room) s m #[(.ref oa), (.ref ob)] below meth c Tj [] 0 0 → Tj.heap = h0 → (s4 = .unset ∨ ∃ w, s4 = .val w ∧ w.category = 1) → (s5 = .unset ∨ ∃ w, s5 = .val w ∧ w.category = 1) → (s6 = .unset ∨ ∃ w, s6 = .val w ∧ w.category = 1) → (s7 = .unset ∨ ∃ w, s7 = .val w ∧ w.category = 1) → own_fold [C0, C1, C2, C3, C4, C5] nz = own_fold [C3, C4, C5] (1 : Int32) → Ends p e below s (fun v h L => v = some (.int (own_fold [C0, C1, C2, C3, C4, C5] nz)) ∧ h = h0 ∧ L = []) ({ frames := 0, cells := 0, slots := 0, locals := 0 } : Room).cells ({ frames := 0, cells := 0, slots := 0, locals := 0 } : Room).slots Tj (mkF m 7 #[.val (.ref oa), .val (.ref ob), .val (.int (1 : Int32)), .val (.int (3 : Int32)), s4, s5, s6, s7] []) := by
    intro Tj s4 s5 s6 s7 Xj ej hs4 hs5 hs6 hs7 hR
    refine E.iloadN (q := 8) Xj hx (hb hby d10_7) rfl ?_
    refine Ends.getS Xj hx hZ hown (host := "") (Or.inl (hw _ (List.mem_of_getElem? (i := 14) rfl))) Via.refl ej (own_sta_keep S0 O0.1 own_ns0) (hb hby d10_8) ?_
    intro T514 X514 e514
    refine E.icmpN (q := 14) X514 hx (hb hby d10_11) (XT.ii_ge_f (by decide)) ?_
    refine E.aloadN (q := 15) X514 hx (hb hby d10_14) rfl rfl ?_
    refine Ends.getF X514 hx hZ hown (host := "") (Or.inl (hw _ (List.mem_of_getElem? (i := 26) rfl))) Via.refl e514 F_n (hb hby d10_15) ?_
    intro T515 X515 e515
    refine E.iloadN (q := 19) X515 hx (hb hby d10_18) rfl ?_
    refine Ends.ald X515 hx hZ e515 A_nA rfl (i := 3) rfl rfl (hb hby d10_19) ?_
    refine E.astore (q := 22) (l' := #[.val (.ref oa), .val (.ref ob), .val (.int (1 : Int32)), .val (.int (3 : Int32)), .val (.ref n3), s5, s6, s7]) X515 hx (hb hby d10_20) rfl (XS.store1 rfl hs4 rfl) ?_
    refine E.aloadN (q := 23) X515 hx (hb hby d10_22) rfl rfl ?_
    refine E.iloadN (q := 24) X515 hx (hb hby d10_23) rfl ?_
    refine Ends.ild X515 hx hZ e515 A_ob (i := 3) rfl rfl (hb hby d10_24) ?_
    refine E.istore (q := 27) (l' := #[.val (.ref oa), .val (.ref ob), .val (.int (1 : Int32)), .val (.int (3 : Int32)), .val (.ref n3), .val (.int bv3), s6, s7]) X515 hx (hb hby d10_25) (XS.store1 rfl hs5 rfl) ?_
    refine E.iconst (q := 28) (v := (0 : Int32)) X515 hx (hb hby d10_27) rfl ?_
    refine E.istore (q := 30) (l' := #[.val (.ref oa), .val (.ref ob), .val (.int (1 : Int32)), .val (.int (3 : Int32)), .val (.ref n3), .val (.int bv3), .val (.int (0 : Int32)), s7]) X515 hx (hb hby d10_28) (XS.store1 rfl hs6 rfl) ?_
    refine E.iload (q := 32) X515 hx (hb hby d10_30) rfl ?_
    refine E.iloadN (q := 33) X515 hx (hb hby d10_32) rfl ?_
    refine E.icmpN (q := 36) X515 hx (hb hby d10_33) (XT.ii_ge_f (by decide)) ?_
    refine E.aload (q := 38) X515 hx (hb hby d10_36) rfl rfl ?_
    refine E.iload (q := 40) X515 hx (hb hby d10_38) rfl ?_
    refine Ends.ild X515 hx hZ e515 A_n3 (i := 0) rfl rfl (hb hby d10_40) ?_
    by_cases hc516 : x30 < (0 : Int32)
    · refine E.ifY (q := 54) X515 hx (hb hby d10_41) (XT.i0_lt_t hc516) ?_
      refine E.iload (q := 56) X515 hx (hb hby d10_54) rfl ?_
      refine E.istoreN (q := 57) (l' := #[.val (.ref oa), .val (.ref ob), .val (.int (0 : Int32)), .val (.int (3 : Int32)), .val (.ref n3), .val (.int bv3), .val (.int (0 : Int32)), s7]) X515 hx (hb hby d10_56) rfl ?_
      refine E.iinc (q := 60) (v := (1 : Int32)) (l' := #[.val (.ref oa), .val (.ref ob), .val (.int (0 : Int32)), .val (.int (3 : Int32)), .val (.ref n3), .val (.int bv3), .val (.int (1 : Int32)), s7]) X515 hx (hb hby d10_57) rfl (by decide) rfl ?_
      refine E.goto (q := 30) X515 hx (hb hby d10_60) ?_
      refine E.iload (q := 32) X515 hx (hb hby d10_30) rfl ?_
      refine E.iloadN (q := 33) X515 hx (hb hby d10_32) rfl ?_
      refine E.icmpY (q := 63) X515 hx (hb hby d10_33) (XT.ii_ge_t (by decide)) ?_
      refine E.iinc (q := 66) (v := (4 : Int32)) (l' := #[.val (.ref oa), .val (.ref ob), .val (.int (0 : Int32)), .val (.int (4 : Int32)), .val (.ref n3), .val (.int bv3), .val (.int (1 : Int32)), s7]) X515 hx (hb hby d10_63) rfl (by decide) rfl ?_
      refine E.goto (q := 7) X515 hx (hb hby d10_66) ?_
      have hst : own_st C3 (1 : Int32) = (0 : Int32) := by rw [hC3]; simp [own_st, own_bi, own_bd, hc516]
      exact JN4_0 T515 (.val (.ref n3)) (.val (.int bv3)) (.val (.int (1 : Int32))) s7 X515 e515 (Or.inr ⟨_, rfl, rfl⟩) (Or.inr ⟨_, rfl, rfl⟩) (Or.inr ⟨_, rfl, rfl⟩) hs7 (hR.trans (congrArg (own_fold [C4, C5]) hst))
    · refine E.ifN (q := 44) X515 hx (hb hby d10_41) (XT.i0_lt_f hc516) ?_
      refine E.aload (q := 46) X515 hx (hb hby d10_44) rfl rfl ?_
      refine E.iload (q := 48) X515 hx (hb hby d10_46) rfl ?_
      refine Ends.ild X515 hx hZ e515 A_n3 (i := 0) rfl rfl (hb hby d10_48) ?_
      refine E.iload (q := 51) X515 hx (hb hby d10_49) rfl ?_
      by_cases hc517 : x30 < bv3
      · refine E.icmpY (q := 57) X515 hx (hb hby d10_51) (XT.ii_lt_t hc517) ?_
        refine E.iinc (q := 60) (v := (1 : Int32)) (l' := #[.val (.ref oa), .val (.ref ob), .val (.int (1 : Int32)), .val (.int (3 : Int32)), .val (.ref n3), .val (.int bv3), .val (.int (1 : Int32)), s7]) X515 hx (hb hby d10_57) rfl (by decide) rfl ?_
        refine E.goto (q := 30) X515 hx (hb hby d10_60) ?_
        refine E.iload (q := 32) X515 hx (hb hby d10_30) rfl ?_
        refine E.iloadN (q := 33) X515 hx (hb hby d10_32) rfl ?_
        refine E.icmpY (q := 63) X515 hx (hb hby d10_33) (XT.ii_ge_t (by decide)) ?_
        refine E.iinc (q := 66) (v := (4 : Int32)) (l' := #[.val (.ref oa), .val (.ref ob), .val (.int (1 : Int32)), .val (.int (4 : Int32)), .val (.ref n3), .val (.int bv3), .val (.int (1 : Int32)), s7]) X515 hx (hb hby d10_63) rfl (by decide) rfl ?_
        refine E.goto (q := 7) X515 hx (hb hby d10_66) ?_
        have hst : own_st C3 (1 : Int32) = (1 : Int32) := by rw [hC3]; simp [own_st, own_bi, own_bd, hc516, hc517]
        exact JN4_1 T515 (.val (.ref n3)) (.val (.int bv3)) (.val (.int (1 : Int32))) s7 X515 e515 (Or.inr ⟨_, rfl, rfl⟩) (Or.inr ⟨_, rfl, rfl⟩) (Or.inr ⟨_, rfl, rfl⟩) hs7 (hR.trans (congrArg (own_fold [C4, C5]) hst))
      · refine E.icmpN (q := 54) X515 hx (hb hby d10_51) (XT.ii_lt_f hc517) ?_
        refine E.iload (q := 56) X515 hx (hb hby d10_54) rfl ?_
        refine E.istoreN (q := 57) (l' := #[.val (.ref oa), .val (.ref ob), .val (.int (0 : Int32)), .val (.int (3 : Int32)), .val (.ref n3), .val (.int bv3), .val (.int (0 : Int32)), s7]) X515 hx (hb hby d10_56) rfl ?_
        refine E.iinc (q := 60) (v := (1 : Int32)) (l' := #[.val (.ref oa), .val (.ref ob), .val (.int (0 : Int32)), .val (.int (3 : Int32)), .val (.ref n3), .val (.int bv3), .val (.int (1 : Int32)), s7]) X515 hx (hb hby d10_57) rfl (by decide) rfl ?_
        refine E.goto (q := 30) X515 hx (hb hby d10_60) ?_
        refine E.iload (q := 32) X515 hx (hb hby d10_30) rfl ?_
        refine E.iloadN (q := 33) X515 hx (hb hby d10_32) rfl ?_
        refine E.icmpY (q := 63) X515 hx (hb hby d10_33) (XT.ii_ge_t (by decide)) ?_
        refine E.iinc (q := 66) (v := (4 : Int32)) (l' := #[.val (.ref oa), .val (.ref ob), .val (.int (0 : Int32)), .val (.int (4 : Int32)), .val (.ref n3), .val (.int bv3), .val (.int (1 : Int32)), s7]) X515 hx (hb hby d10_63) rfl (by decide) rfl ?_
        refine E.goto (q := 7) X515 hx (hb hby d10_66) ?_
        have hst : own_st C3 (1 : Int32) = (0 : Int32) := by rw [hC3]; simp [own_st, own_bi, own_bd, hc516, hc517]
        exact JN4_0 T515 (.val (.ref n3)) (.val (.int bv3)) (.val (.int (1 : Int32))) s7 X515 e515 (Or.inr ⟨_, rfl, rfl⟩) (Or.inr ⟨_, rfl, rfl⟩) (Or.inr ⟨_, rfl, rfl⟩) hs7 (hR.trans (congrArg (own_fold [C4, C5]) hst))
  have JN3_2 : ∀ (Tj : State) (s4 s5 s6 s7 : Slot), Stand p l e ({ frames := 0, cells := 0, slots := 0, locals := 0 } : Room) s m #[(.ref oa), (.ref ob)] below meth c Tj [] 0 0 → Tj.heap = h0 → (s4 = .unset ∨ ∃ w, s4 = .val w ∧ w.category = 1) → (s5 = .unset ∨ ∃ w, s5 = .val w ∧ w.category = 1) → (s6 = .unset ∨ ∃ w, s6 = .val w ∧ w.category = 1) → (s7 = .unset ∨ ∃ w, s7 = .val w ∧ w.category = 1) → own_fold [C0, C1, C2, C3, C4, C5] nz = own_fold [C3, C4, C5] (2 : Int32) → Ends p e below s (fun v h L => v = some (.int (own_fold [C0, C1, C2, C3, C4, C5] nz)) ∧ h = h0 ∧ L = []) ({ frames := 0, cells := 0, slots := 0, locals := 0 } : Room).cells ({ frames := 0, cells := 0, slots := 0, locals := 0 } : Room).slots Tj (mkF m 7 #[.val (.ref oa), .val (.ref ob), .val (.int (2 : Int32)), .val (.int (3 : Int32)), s4, s5, s6, s7] []) := by
    intro Tj s4 s5 s6 s7 Xj ej hs4 hs5 hs6 hs7 hR
    refine E.iloadN (q := 8) Xj hx (hb hby d10_7) rfl ?_
    refine Ends.getS Xj hx hZ hown (host := "") (Or.inl (hw _ (List.mem_of_getElem? (i := 14) rfl))) Via.refl ej (own_sta_keep S0 O0.1 own_ns0) (hb hby d10_8) ?_
    intro T518 X518 e518
    refine E.icmpN (q := 14) X518 hx (hb hby d10_11) (XT.ii_ge_f (by decide)) ?_
    refine E.aloadN (q := 15) X518 hx (hb hby d10_14) rfl rfl ?_
    refine Ends.getF X518 hx hZ hown (host := "") (Or.inl (hw _ (List.mem_of_getElem? (i := 26) rfl))) Via.refl e518 F_n (hb hby d10_15) ?_
    intro T519 X519 e519
    refine E.iloadN (q := 19) X519 hx (hb hby d10_18) rfl ?_
    refine Ends.ald X519 hx hZ e519 A_nA rfl (i := 3) rfl rfl (hb hby d10_19) ?_
    refine E.astore (q := 22) (l' := #[.val (.ref oa), .val (.ref ob), .val (.int (2 : Int32)), .val (.int (3 : Int32)), .val (.ref n3), s5, s6, s7]) X519 hx (hb hby d10_20) rfl (XS.store1 rfl hs4 rfl) ?_
    refine E.aloadN (q := 23) X519 hx (hb hby d10_22) rfl rfl ?_
    refine E.iloadN (q := 24) X519 hx (hb hby d10_23) rfl ?_
    refine Ends.ild X519 hx hZ e519 A_ob (i := 3) rfl rfl (hb hby d10_24) ?_
    refine E.istore (q := 27) (l' := #[.val (.ref oa), .val (.ref ob), .val (.int (2 : Int32)), .val (.int (3 : Int32)), .val (.ref n3), .val (.int bv3), s6, s7]) X519 hx (hb hby d10_25) (XS.store1 rfl hs5 rfl) ?_
    refine E.iconst (q := 28) (v := (0 : Int32)) X519 hx (hb hby d10_27) rfl ?_
    refine E.istore (q := 30) (l' := #[.val (.ref oa), .val (.ref ob), .val (.int (2 : Int32)), .val (.int (3 : Int32)), .val (.ref n3), .val (.int bv3), .val (.int (0 : Int32)), s7]) X519 hx (hb hby d10_28) (XS.store1 rfl hs6 rfl) ?_
    refine E.iload (q := 32) X519 hx (hb hby d10_30) rfl ?_
    refine E.iloadN (q := 33) X519 hx (hb hby d10_32) rfl ?_
    refine E.icmpN (q := 36) X519 hx (hb hby d10_33) (XT.ii_ge_f (by decide)) ?_
    refine E.aload (q := 38) X519 hx (hb hby d10_36) rfl rfl ?_
    refine E.iload (q := 40) X519 hx (hb hby d10_38) rfl ?_
    refine Ends.ild X519 hx hZ e519 A_n3 (i := 0) rfl rfl (hb hby d10_40) ?_
    by_cases hc520 : x30 < (0 : Int32)
    · refine E.ifY (q := 54) X519 hx (hb hby d10_41) (XT.i0_lt_t hc520) ?_
      refine E.iload (q := 56) X519 hx (hb hby d10_54) rfl ?_
      refine E.istoreN (q := 57) (l' := #[.val (.ref oa), .val (.ref ob), .val (.int (0 : Int32)), .val (.int (3 : Int32)), .val (.ref n3), .val (.int bv3), .val (.int (0 : Int32)), s7]) X519 hx (hb hby d10_56) rfl ?_
      refine E.iinc (q := 60) (v := (1 : Int32)) (l' := #[.val (.ref oa), .val (.ref ob), .val (.int (0 : Int32)), .val (.int (3 : Int32)), .val (.ref n3), .val (.int bv3), .val (.int (1 : Int32)), s7]) X519 hx (hb hby d10_57) rfl (by decide) rfl ?_
      refine E.goto (q := 30) X519 hx (hb hby d10_60) ?_
      refine E.iload (q := 32) X519 hx (hb hby d10_30) rfl ?_
      refine E.iloadN (q := 33) X519 hx (hb hby d10_32) rfl ?_
      refine E.icmpY (q := 63) X519 hx (hb hby d10_33) (XT.ii_ge_t (by decide)) ?_
      refine E.iinc (q := 66) (v := (4 : Int32)) (l' := #[.val (.ref oa), .val (.ref ob), .val (.int (0 : Int32)), .val (.int (4 : Int32)), .val (.ref n3), .val (.int bv3), .val (.int (1 : Int32)), s7]) X519 hx (hb hby d10_63) rfl (by decide) rfl ?_
      refine E.goto (q := 7) X519 hx (hb hby d10_66) ?_
      have hst : own_st C3 (2 : Int32) = (0 : Int32) := by rw [hC3]; simp [own_st, own_bi, own_bd, hc520]
      exact JN4_0 T519 (.val (.ref n3)) (.val (.int bv3)) (.val (.int (1 : Int32))) s7 X519 e519 (Or.inr ⟨_, rfl, rfl⟩) (Or.inr ⟨_, rfl, rfl⟩) (Or.inr ⟨_, rfl, rfl⟩) hs7 (hR.trans (congrArg (own_fold [C4, C5]) hst))
    · refine E.ifN (q := 44) X519 hx (hb hby d10_41) (XT.i0_lt_f hc520) ?_
      refine E.aload (q := 46) X519 hx (hb hby d10_44) rfl rfl ?_
      refine E.iload (q := 48) X519 hx (hb hby d10_46) rfl ?_
      refine Ends.ild X519 hx hZ e519 A_n3 (i := 0) rfl rfl (hb hby d10_48) ?_
      refine E.iload (q := 51) X519 hx (hb hby d10_49) rfl ?_
      by_cases hc521 : x30 < bv3
      · refine E.icmpY (q := 57) X519 hx (hb hby d10_51) (XT.ii_lt_t hc521) ?_
        refine E.iinc (q := 60) (v := (1 : Int32)) (l' := #[.val (.ref oa), .val (.ref ob), .val (.int (2 : Int32)), .val (.int (3 : Int32)), .val (.ref n3), .val (.int bv3), .val (.int (1 : Int32)), s7]) X519 hx (hb hby d10_57) rfl (by decide) rfl ?_
        refine E.goto (q := 30) X519 hx (hb hby d10_60) ?_
        refine E.iload (q := 32) X519 hx (hb hby d10_30) rfl ?_
        refine E.iloadN (q := 33) X519 hx (hb hby d10_32) rfl ?_
        refine E.icmpN (q := 36) X519 hx (hb hby d10_33) (XT.ii_ge_f (by decide)) ?_
        refine E.aload (q := 38) X519 hx (hb hby d10_36) rfl rfl ?_
        refine E.iload (q := 40) X519 hx (hb hby d10_38) rfl ?_
        refine Ends.ild X519 hx hZ e519 A_n3 (i := 1) rfl rfl (hb hby d10_40) ?_
        by_cases hc522 : x31 < (0 : Int32)
        · refine E.ifY (q := 54) X519 hx (hb hby d10_41) (XT.i0_lt_t hc522) ?_
          refine E.iload (q := 56) X519 hx (hb hby d10_54) rfl ?_
          refine E.istoreN (q := 57) (l' := #[.val (.ref oa), .val (.ref ob), .val (.int (1 : Int32)), .val (.int (3 : Int32)), .val (.ref n3), .val (.int bv3), .val (.int (1 : Int32)), s7]) X519 hx (hb hby d10_56) rfl ?_
          refine E.iinc (q := 60) (v := (2 : Int32)) (l' := #[.val (.ref oa), .val (.ref ob), .val (.int (1 : Int32)), .val (.int (3 : Int32)), .val (.ref n3), .val (.int bv3), .val (.int (2 : Int32)), s7]) X519 hx (hb hby d10_57) rfl (by decide) rfl ?_
          refine E.goto (q := 30) X519 hx (hb hby d10_60) ?_
          refine E.iload (q := 32) X519 hx (hb hby d10_30) rfl ?_
          refine E.iloadN (q := 33) X519 hx (hb hby d10_32) rfl ?_
          refine E.icmpY (q := 63) X519 hx (hb hby d10_33) (XT.ii_ge_t (by decide)) ?_
          refine E.iinc (q := 66) (v := (4 : Int32)) (l' := #[.val (.ref oa), .val (.ref ob), .val (.int (1 : Int32)), .val (.int (4 : Int32)), .val (.ref n3), .val (.int bv3), .val (.int (2 : Int32)), s7]) X519 hx (hb hby d10_63) rfl (by decide) rfl ?_
          refine E.goto (q := 7) X519 hx (hb hby d10_66) ?_
          have hst : own_st C3 (2 : Int32) = (1 : Int32) := by rw [hC3]; simp [own_st, own_bi, own_bd, hc520, hc521, hc522]
          exact JN4_1 T519 (.val (.ref n3)) (.val (.int bv3)) (.val (.int (2 : Int32))) s7 X519 e519 (Or.inr ⟨_, rfl, rfl⟩) (Or.inr ⟨_, rfl, rfl⟩) (Or.inr ⟨_, rfl, rfl⟩) hs7 (hR.trans (congrArg (own_fold [C4, C5]) hst))
        · refine E.ifN (q := 44) X519 hx (hb hby d10_41) (XT.i0_lt_f hc522) ?_
          refine E.aload (q := 46) X519 hx (hb hby d10_44) rfl rfl ?_
          refine E.iload (q := 48) X519 hx (hb hby d10_46) rfl ?_
          refine Ends.ild X519 hx hZ e519 A_n3 (i := 1) rfl rfl (hb hby d10_48) ?_
          refine E.iload (q := 51) X519 hx (hb hby d10_49) rfl ?_
          by_cases hc523 : x31 < bv3
          · refine E.icmpY (q := 57) X519 hx (hb hby d10_51) (XT.ii_lt_t hc523) ?_
            refine E.iinc (q := 60) (v := (2 : Int32)) (l' := #[.val (.ref oa), .val (.ref ob), .val (.int (2 : Int32)), .val (.int (3 : Int32)), .val (.ref n3), .val (.int bv3), .val (.int (2 : Int32)), s7]) X519 hx (hb hby d10_57) rfl (by decide) rfl ?_
            refine E.goto (q := 30) X519 hx (hb hby d10_60) ?_
            refine E.iload (q := 32) X519 hx (hb hby d10_30) rfl ?_
            refine E.iloadN (q := 33) X519 hx (hb hby d10_32) rfl ?_
            refine E.icmpY (q := 63) X519 hx (hb hby d10_33) (XT.ii_ge_t (by decide)) ?_
            refine E.iinc (q := 66) (v := (4 : Int32)) (l' := #[.val (.ref oa), .val (.ref ob), .val (.int (2 : Int32)), .val (.int (4 : Int32)), .val (.ref n3), .val (.int bv3), .val (.int (2 : Int32)), s7]) X519 hx (hb hby d10_63) rfl (by decide) rfl ?_
            refine E.goto (q := 7) X519 hx (hb hby d10_66) ?_
            have hst : own_st C3 (2 : Int32) = (2 : Int32) := by rw [hC3]; simp [own_st, own_bi, own_bd, hc520, hc521, hc522, hc523]
            exact JN4_2 T519 (.val (.ref n3)) (.val (.int bv3)) (.val (.int (2 : Int32))) s7 X519 e519 (Or.inr ⟨_, rfl, rfl⟩) (Or.inr ⟨_, rfl, rfl⟩) (Or.inr ⟨_, rfl, rfl⟩) hs7 (hR.trans (congrArg (own_fold [C4, C5]) hst))
          · refine E.icmpN (q := 54) X519 hx (hb hby d10_51) (XT.ii_lt_f hc523) ?_
            refine E.iload (q := 56) X519 hx (hb hby d10_54) rfl ?_
            refine E.istoreN (q := 57) (l' := #[.val (.ref oa), .val (.ref ob), .val (.int (1 : Int32)), .val (.int (3 : Int32)), .val (.ref n3), .val (.int bv3), .val (.int (1 : Int32)), s7]) X519 hx (hb hby d10_56) rfl ?_
            refine E.iinc (q := 60) (v := (2 : Int32)) (l' := #[.val (.ref oa), .val (.ref ob), .val (.int (1 : Int32)), .val (.int (3 : Int32)), .val (.ref n3), .val (.int bv3), .val (.int (2 : Int32)), s7]) X519 hx (hb hby d10_57) rfl (by decide) rfl ?_
            refine E.goto (q := 30) X519 hx (hb hby d10_60) ?_
            refine E.iload (q := 32) X519 hx (hb hby d10_30) rfl ?_
            refine E.iloadN (q := 33) X519 hx (hb hby d10_32) rfl ?_
            refine E.icmpY (q := 63) X519 hx (hb hby d10_33) (XT.ii_ge_t (by decide)) ?_
            refine E.iinc (q := 66) (v := (4 : Int32)) (l' := #[.val (.ref oa), .val (.ref ob), .val (.int (1 : Int32)), .val (.int (4 : Int32)), .val (.ref n3), .val (.int bv3), .val (.int (2 : Int32)), s7]) X519 hx (hb hby d10_63) rfl (by decide) rfl ?_
            refine E.goto (q := 7) X519 hx (hb hby d10_66) ?_
            have hst : own_st C3 (2 : Int32) = (1 : Int32) := by rw [hC3]; simp [own_st, own_bi, own_bd, hc520, hc521, hc522, hc523]
            exact JN4_1 T519 (.val (.ref n3)) (.val (.int bv3)) (.val (.int (2 : Int32))) s7 X519 e519 (Or.inr ⟨_, rfl, rfl⟩) (Or.inr ⟨_, rfl, rfl⟩) (Or.inr ⟨_, rfl, rfl⟩) hs7 (hR.trans (congrArg (own_fold [C4, C5]) hst))
      · refine E.icmpN (q := 54) X519 hx (hb hby d10_51) (XT.ii_lt_f hc521) ?_
        refine E.iload (q := 56) X519 hx (hb hby d10_54) rfl ?_
        refine E.istoreN (q := 57) (l' := #[.val (.ref oa), .val (.ref ob), .val (.int (0 : Int32)), .val (.int (3 : Int32)), .val (.ref n3), .val (.int bv3), .val (.int (0 : Int32)), s7]) X519 hx (hb hby d10_56) rfl ?_
        refine E.iinc (q := 60) (v := (1 : Int32)) (l' := #[.val (.ref oa), .val (.ref ob), .val (.int (0 : Int32)), .val (.int (3 : Int32)), .val (.ref n3), .val (.int bv3), .val (.int (1 : Int32)), s7]) X519 hx (hb hby d10_57) rfl (by decide) rfl ?_
        refine E.goto (q := 30) X519 hx (hb hby d10_60) ?_
        refine E.iload (q := 32) X519 hx (hb hby d10_30) rfl ?_
        refine E.iloadN (q := 33) X519 hx (hb hby d10_32) rfl ?_
        refine E.icmpY (q := 63) X519 hx (hb hby d10_33) (XT.ii_ge_t (by decide)) ?_
        refine E.iinc (q := 66) (v := (4 : Int32)) (l' := #[.val (.ref oa), .val (.ref ob), .val (.int (0 : Int32)), .val (.int (4 : Int32)), .val (.ref n3), .val (.int bv3), .val (.int (1 : Int32)), s7]) X519 hx (hb hby d10_63) rfl (by decide) rfl ?_
        refine E.goto (q := 7) X519 hx (hb hby d10_66) ?_
        have hst : own_st C3 (2 : Int32) = (0 : Int32) := by rw [hC3]; simp [own_st, own_bi, own_bd, hc520, hc521]
        exact JN4_0 T519 (.val (.ref n3)) (.val (.int bv3)) (.val (.int (1 : Int32))) s7 X519 e519 (Or.inr ⟨_, rfl, rfl⟩) (Or.inr ⟨_, rfl, rfl⟩) (Or.inr ⟨_, rfl, rfl⟩) hs7 (hR.trans (congrArg (own_fold [C4, C5]) hst))
  have JN2_0 : ∀ (Tj : State) (s4 s5 s6 s7 : Slot), Stand p l e ({ frames := 0, cells := 0, slots := 0, locals := 0 } : Room) s m #[(.ref oa), (.ref ob)] below meth c Tj [] 0 0 → Tj.heap = h0 → (s4 = .unset ∨ ∃ w, s4 = .val w ∧ w.category = 1) → (s5 = .unset ∨ ∃ w, s5 = .val w ∧ w.category = 1) → (s6 = .unset ∨ ∃ w, s6 = .val w ∧ w.category = 1) → (s7 = .unset ∨ ∃ w, s7 = .val w ∧ w.category = 1) → own_fold [C0, C1, C2, C3, C4, C5] nz = own_fold [C2, C3, C4, C5] (0 : Int32) → Ends p e below s (fun v h L => v = some (.int (own_fold [C0, C1, C2, C3, C4, C5] nz)) ∧ h = h0 ∧ L = []) ({ frames := 0, cells := 0, slots := 0, locals := 0 } : Room).cells ({ frames := 0, cells := 0, slots := 0, locals := 0 } : Room).slots Tj (mkF m 7 #[.val (.ref oa), .val (.ref ob), .val (.int (0 : Int32)), .val (.int (2 : Int32)), s4, s5, s6, s7] []) := by
    intro Tj s4 s5 s6 s7 Xj ej hs4 hs5 hs6 hs7 hR
    refine E.iloadN (q := 8) Xj hx (hb hby d10_7) rfl ?_
    refine Ends.getS Xj hx hZ hown (host := "") (Or.inl (hw _ (List.mem_of_getElem? (i := 14) rfl))) Via.refl ej (own_sta_keep S0 O0.1 own_ns0) (hb hby d10_8) ?_
    intro T524 X524 e524
    refine E.icmpN (q := 14) X524 hx (hb hby d10_11) (XT.ii_ge_f (by decide)) ?_
    refine E.aloadN (q := 15) X524 hx (hb hby d10_14) rfl rfl ?_
    refine Ends.getF X524 hx hZ hown (host := "") (Or.inl (hw _ (List.mem_of_getElem? (i := 26) rfl))) Via.refl e524 F_n (hb hby d10_15) ?_
    intro T525 X525 e525
    refine E.iloadN (q := 19) X525 hx (hb hby d10_18) rfl ?_
    refine Ends.ald X525 hx hZ e525 A_nA rfl (i := 2) rfl rfl (hb hby d10_19) ?_
    refine E.astore (q := 22) (l' := #[.val (.ref oa), .val (.ref ob), .val (.int (0 : Int32)), .val (.int (2 : Int32)), .val (.ref n2), s5, s6, s7]) X525 hx (hb hby d10_20) rfl (XS.store1 rfl hs4 rfl) ?_
    refine E.aloadN (q := 23) X525 hx (hb hby d10_22) rfl rfl ?_
    refine E.iloadN (q := 24) X525 hx (hb hby d10_23) rfl ?_
    refine Ends.ild X525 hx hZ e525 A_ob (i := 2) rfl rfl (hb hby d10_24) ?_
    refine E.istore (q := 27) (l' := #[.val (.ref oa), .val (.ref ob), .val (.int (0 : Int32)), .val (.int (2 : Int32)), .val (.ref n2), .val (.int bv2), s6, s7]) X525 hx (hb hby d10_25) (XS.store1 rfl hs5 rfl) ?_
    refine E.iconst (q := 28) (v := (0 : Int32)) X525 hx (hb hby d10_27) rfl ?_
    refine E.istore (q := 30) (l' := #[.val (.ref oa), .val (.ref ob), .val (.int (0 : Int32)), .val (.int (2 : Int32)), .val (.ref n2), .val (.int bv2), .val (.int (0 : Int32)), s7]) X525 hx (hb hby d10_28) (XS.store1 rfl hs6 rfl) ?_
    refine E.iload (q := 32) X525 hx (hb hby d10_30) rfl ?_
    refine E.iloadN (q := 33) X525 hx (hb hby d10_32) rfl ?_
    refine E.icmpY (q := 63) X525 hx (hb hby d10_33) (XT.ii_ge_t (by decide)) ?_
    refine E.iinc (q := 66) (v := (3 : Int32)) (l' := #[.val (.ref oa), .val (.ref ob), .val (.int (0 : Int32)), .val (.int (3 : Int32)), .val (.ref n2), .val (.int bv2), .val (.int (0 : Int32)), s7]) X525 hx (hb hby d10_63) rfl (by decide) rfl ?_
    refine E.goto (q := 7) X525 hx (hb hby d10_66) ?_
    have hst : own_st C2 (0 : Int32) = (0 : Int32) := by rw [hC2]; simp [own_st, own_bi, own_bd]
    exact JN3_0 T525 (.val (.ref n2)) (.val (.int bv2)) (.val (.int (0 : Int32))) s7 X525 e525 (Or.inr ⟨_, rfl, rfl⟩) (Or.inr ⟨_, rfl, rfl⟩) (Or.inr ⟨_, rfl, rfl⟩) hs7 (hR.trans (congrArg (own_fold [C3, C4, C5]) hst))
  have JN2_1 : ∀ (Tj : State) (s4 s5 s6 s7 : Slot), Stand p l e ({ frames := 0, cells := 0, slots := 0, locals := 0 } : Room) s m #[(.ref oa), (.ref ob)] below meth c Tj [] 0 0 → Tj.heap = h0 → (s4 = .unset ∨ ∃ w, s4 = .val w ∧ w.category = 1) → (s5 = .unset ∨ ∃ w, s5 = .val w ∧ w.category = 1) → (s6 = .unset ∨ ∃ w, s6 = .val w ∧ w.category = 1) → (s7 = .unset ∨ ∃ w, s7 = .val w ∧ w.category = 1) → own_fold [C0, C1, C2, C3, C4, C5] nz = own_fold [C2, C3, C4, C5] (1 : Int32) → Ends p e below s (fun v h L => v = some (.int (own_fold [C0, C1, C2, C3, C4, C5] nz)) ∧ h = h0 ∧ L = []) ({ frames := 0, cells := 0, slots := 0, locals := 0 } : Room).cells ({ frames := 0, cells := 0, slots := 0, locals := 0 } : Room).slots Tj (mkF m 7 #[.val (.ref oa), .val (.ref ob), .val (.int (1 : Int32)), .val (.int (2 : Int32)), s4, s5, s6, s7] []) := by
    intro Tj s4 s5 s6 s7 Xj ej hs4 hs5 hs6 hs7 hR
    refine E.iloadN (q := 8) Xj hx (hb hby d10_7) rfl ?_
    refine Ends.getS Xj hx hZ hown (host := "") (Or.inl (hw _ (List.mem_of_getElem? (i := 14) rfl))) Via.refl ej (own_sta_keep S0 O0.1 own_ns0) (hb hby d10_8) ?_
    intro T526 X526 e526
    refine E.icmpN (q := 14) X526 hx (hb hby d10_11) (XT.ii_ge_f (by decide)) ?_
    refine E.aloadN (q := 15) X526 hx (hb hby d10_14) rfl rfl ?_
    refine Ends.getF X526 hx hZ hown (host := "") (Or.inl (hw _ (List.mem_of_getElem? (i := 26) rfl))) Via.refl e526 F_n (hb hby d10_15) ?_
    intro T527 X527 e527
    refine E.iloadN (q := 19) X527 hx (hb hby d10_18) rfl ?_
    refine Ends.ald X527 hx hZ e527 A_nA rfl (i := 2) rfl rfl (hb hby d10_19) ?_
    refine E.astore (q := 22) (l' := #[.val (.ref oa), .val (.ref ob), .val (.int (1 : Int32)), .val (.int (2 : Int32)), .val (.ref n2), s5, s6, s7]) X527 hx (hb hby d10_20) rfl (XS.store1 rfl hs4 rfl) ?_
    refine E.aloadN (q := 23) X527 hx (hb hby d10_22) rfl rfl ?_
    refine E.iloadN (q := 24) X527 hx (hb hby d10_23) rfl ?_
    refine Ends.ild X527 hx hZ e527 A_ob (i := 2) rfl rfl (hb hby d10_24) ?_
    refine E.istore (q := 27) (l' := #[.val (.ref oa), .val (.ref ob), .val (.int (1 : Int32)), .val (.int (2 : Int32)), .val (.ref n2), .val (.int bv2), s6, s7]) X527 hx (hb hby d10_25) (XS.store1 rfl hs5 rfl) ?_
    refine E.iconst (q := 28) (v := (0 : Int32)) X527 hx (hb hby d10_27) rfl ?_
    refine E.istore (q := 30) (l' := #[.val (.ref oa), .val (.ref ob), .val (.int (1 : Int32)), .val (.int (2 : Int32)), .val (.ref n2), .val (.int bv2), .val (.int (0 : Int32)), s7]) X527 hx (hb hby d10_28) (XS.store1 rfl hs6 rfl) ?_
    refine E.iload (q := 32) X527 hx (hb hby d10_30) rfl ?_
    refine E.iloadN (q := 33) X527 hx (hb hby d10_32) rfl ?_
    refine E.icmpN (q := 36) X527 hx (hb hby d10_33) (XT.ii_ge_f (by decide)) ?_
    refine E.aload (q := 38) X527 hx (hb hby d10_36) rfl rfl ?_
    refine E.iload (q := 40) X527 hx (hb hby d10_38) rfl ?_
    refine Ends.ild X527 hx hZ e527 A_n2 (i := 0) rfl rfl (hb hby d10_40) ?_
    by_cases hc528 : x20 < (0 : Int32)
    · refine E.ifY (q := 54) X527 hx (hb hby d10_41) (XT.i0_lt_t hc528) ?_
      refine E.iload (q := 56) X527 hx (hb hby d10_54) rfl ?_
      refine E.istoreN (q := 57) (l' := #[.val (.ref oa), .val (.ref ob), .val (.int (0 : Int32)), .val (.int (2 : Int32)), .val (.ref n2), .val (.int bv2), .val (.int (0 : Int32)), s7]) X527 hx (hb hby d10_56) rfl ?_
      refine E.iinc (q := 60) (v := (1 : Int32)) (l' := #[.val (.ref oa), .val (.ref ob), .val (.int (0 : Int32)), .val (.int (2 : Int32)), .val (.ref n2), .val (.int bv2), .val (.int (1 : Int32)), s7]) X527 hx (hb hby d10_57) rfl (by decide) rfl ?_
      refine E.goto (q := 30) X527 hx (hb hby d10_60) ?_
      refine E.iload (q := 32) X527 hx (hb hby d10_30) rfl ?_
      refine E.iloadN (q := 33) X527 hx (hb hby d10_32) rfl ?_
      refine E.icmpY (q := 63) X527 hx (hb hby d10_33) (XT.ii_ge_t (by decide)) ?_
      refine E.iinc (q := 66) (v := (3 : Int32)) (l' := #[.val (.ref oa), .val (.ref ob), .val (.int (0 : Int32)), .val (.int (3 : Int32)), .val (.ref n2), .val (.int bv2), .val (.int (1 : Int32)), s7]) X527 hx (hb hby d10_63) rfl (by decide) rfl ?_
      refine E.goto (q := 7) X527 hx (hb hby d10_66) ?_
      have hst : own_st C2 (1 : Int32) = (0 : Int32) := by rw [hC2]; simp [own_st, own_bi, own_bd, hc528]
      exact JN3_0 T527 (.val (.ref n2)) (.val (.int bv2)) (.val (.int (1 : Int32))) s7 X527 e527 (Or.inr ⟨_, rfl, rfl⟩) (Or.inr ⟨_, rfl, rfl⟩) (Or.inr ⟨_, rfl, rfl⟩) hs7 (hR.trans (congrArg (own_fold [C3, C4, C5]) hst))
    · refine E.ifN (q := 44) X527 hx (hb hby d10_41) (XT.i0_lt_f hc528) ?_
      refine E.aload (q := 46) X527 hx (hb hby d10_44) rfl rfl ?_
      refine E.iload (q := 48) X527 hx (hb hby d10_46) rfl ?_
      refine Ends.ild X527 hx hZ e527 A_n2 (i := 0) rfl rfl (hb hby d10_48) ?_
      refine E.iload (q := 51) X527 hx (hb hby d10_49) rfl ?_
      by_cases hc529 : x20 < bv2
      · refine E.icmpY (q := 57) X527 hx (hb hby d10_51) (XT.ii_lt_t hc529) ?_
        refine E.iinc (q := 60) (v := (1 : Int32)) (l' := #[.val (.ref oa), .val (.ref ob), .val (.int (1 : Int32)), .val (.int (2 : Int32)), .val (.ref n2), .val (.int bv2), .val (.int (1 : Int32)), s7]) X527 hx (hb hby d10_57) rfl (by decide) rfl ?_
        refine E.goto (q := 30) X527 hx (hb hby d10_60) ?_
        refine E.iload (q := 32) X527 hx (hb hby d10_30) rfl ?_
        refine E.iloadN (q := 33) X527 hx (hb hby d10_32) rfl ?_
        refine E.icmpY (q := 63) X527 hx (hb hby d10_33) (XT.ii_ge_t (by decide)) ?_
        refine E.iinc (q := 66) (v := (3 : Int32)) (l' := #[.val (.ref oa), .val (.ref ob), .val (.int (1 : Int32)), .val (.int (3 : Int32)), .val (.ref n2), .val (.int bv2), .val (.int (1 : Int32)), s7]) X527 hx (hb hby d10_63) rfl (by decide) rfl ?_
        refine E.goto (q := 7) X527 hx (hb hby d10_66) ?_
        have hst : own_st C2 (1 : Int32) = (1 : Int32) := by rw [hC2]; simp [own_st, own_bi, own_bd, hc528, hc529]
        exact JN3_1 T527 (.val (.ref n2)) (.val (.int bv2)) (.val (.int (1 : Int32))) s7 X527 e527 (Or.inr ⟨_, rfl, rfl⟩) (Or.inr ⟨_, rfl, rfl⟩) (Or.inr ⟨_, rfl, rfl⟩) hs7 (hR.trans (congrArg (own_fold [C3, C4, C5]) hst))
      · refine E.icmpN (q := 54) X527 hx (hb hby d10_51) (XT.ii_lt_f hc529) ?_
        refine E.iload (q := 56) X527 hx (hb hby d10_54) rfl ?_
        refine E.istoreN (q := 57) (l' := #[.val (.ref oa), .val (.ref ob), .val (.int (0 : Int32)), .val (.int (2 : Int32)), .val (.ref n2), .val (.int bv2), .val (.int (0 : Int32)), s7]) X527 hx (hb hby d10_56) rfl ?_
        refine E.iinc (q := 60) (v := (1 : Int32)) (l' := #[.val (.ref oa), .val (.ref ob), .val (.int (0 : Int32)), .val (.int (2 : Int32)), .val (.ref n2), .val (.int bv2), .val (.int (1 : Int32)), s7]) X527 hx (hb hby d10_57) rfl (by decide) rfl ?_
        refine E.goto (q := 30) X527 hx (hb hby d10_60) ?_
        refine E.iload (q := 32) X527 hx (hb hby d10_30) rfl ?_
        refine E.iloadN (q := 33) X527 hx (hb hby d10_32) rfl ?_
        refine E.icmpY (q := 63) X527 hx (hb hby d10_33) (XT.ii_ge_t (by decide)) ?_
        refine E.iinc (q := 66) (v := (3 : Int32)) (l' := #[.val (.ref oa), .val (.ref ob), .val (.int (0 : Int32)), .val (.int (3 : Int32)), .val (.ref n2), .val (.int bv2), .val (.int (1 : Int32)), s7]) X527 hx (hb hby d10_63) rfl (by decide) rfl ?_
        refine E.goto (q := 7) X527 hx (hb hby d10_66) ?_
        have hst : own_st C2 (1 : Int32) = (0 : Int32) := by rw [hC2]; simp [own_st, own_bi, own_bd, hc528, hc529]
        exact JN3_0 T527 (.val (.ref n2)) (.val (.int bv2)) (.val (.int (1 : Int32))) s7 X527 e527 (Or.inr ⟨_, rfl, rfl⟩) (Or.inr ⟨_, rfl, rfl⟩) (Or.inr ⟨_, rfl, rfl⟩) hs7 (hR.trans (congrArg (own_fold [C3, C4, C5]) hst))
  have JN2_2 : ∀ (Tj : State) (s4 s5 s6 s7 : Slot), Stand p l e ({ frames := 0, cells := 0, slots := 0, locals := 0 } : Room) s m #[(.ref oa), (.ref ob)] below meth c Tj [] 0 0 → Tj.heap = h0 → (s4 = .unset ∨ ∃ w, s4 = .val w ∧ w.category = 1) → (s5 = .unset ∨ ∃ w, s5 = .val w ∧ w.category = 1) → (s6 = .unset ∨ ∃ w, s6 = .val w ∧ w.category = 1) → (s7 = .unset ∨ ∃ w, s7 = .val w ∧ w.category = 1) → own_fold [C0, C1, C2, C3, C4, C5] nz = own_fold [C2, C3, C4, C5] (2 : Int32) → Ends p e below s (fun v h L => v = some (.int (own_fold [C0, C1, C2, C3, C4, C5] nz)) ∧ h = h0 ∧ L = []) ({ frames := 0, cells := 0, slots := 0, locals := 0 } : Room).cells ({ frames := 0, cells := 0, slots := 0, locals := 0 } : Room).slots Tj (mkF m 7 #[.val (.ref oa), .val (.ref ob), .val (.int (2 : Int32)), .val (.int (2 : Int32)), s4, s5, s6, s7] []) := by
    intro Tj s4 s5 s6 s7 Xj ej hs4 hs5 hs6 hs7 hR
    refine E.iloadN (q := 8) Xj hx (hb hby d10_7) rfl ?_
    refine Ends.getS Xj hx hZ hown (host := "") (Or.inl (hw _ (List.mem_of_getElem? (i := 14) rfl))) Via.refl ej (own_sta_keep S0 O0.1 own_ns0) (hb hby d10_8) ?_
    intro T530 X530 e530
    refine E.icmpN (q := 14) X530 hx (hb hby d10_11) (XT.ii_ge_f (by decide)) ?_
    refine E.aloadN (q := 15) X530 hx (hb hby d10_14) rfl rfl ?_
    refine Ends.getF X530 hx hZ hown (host := "") (Or.inl (hw _ (List.mem_of_getElem? (i := 26) rfl))) Via.refl e530 F_n (hb hby d10_15) ?_
    intro T531 X531 e531
    refine E.iloadN (q := 19) X531 hx (hb hby d10_18) rfl ?_
    refine Ends.ald X531 hx hZ e531 A_nA rfl (i := 2) rfl rfl (hb hby d10_19) ?_
    refine E.astore (q := 22) (l' := #[.val (.ref oa), .val (.ref ob), .val (.int (2 : Int32)), .val (.int (2 : Int32)), .val (.ref n2), s5, s6, s7]) X531 hx (hb hby d10_20) rfl (XS.store1 rfl hs4 rfl) ?_
    refine E.aloadN (q := 23) X531 hx (hb hby d10_22) rfl rfl ?_
    refine E.iloadN (q := 24) X531 hx (hb hby d10_23) rfl ?_
    refine Ends.ild X531 hx hZ e531 A_ob (i := 2) rfl rfl (hb hby d10_24) ?_
    refine E.istore (q := 27) (l' := #[.val (.ref oa), .val (.ref ob), .val (.int (2 : Int32)), .val (.int (2 : Int32)), .val (.ref n2), .val (.int bv2), s6, s7]) X531 hx (hb hby d10_25) (XS.store1 rfl hs5 rfl) ?_
    refine E.iconst (q := 28) (v := (0 : Int32)) X531 hx (hb hby d10_27) rfl ?_
    refine E.istore (q := 30) (l' := #[.val (.ref oa), .val (.ref ob), .val (.int (2 : Int32)), .val (.int (2 : Int32)), .val (.ref n2), .val (.int bv2), .val (.int (0 : Int32)), s7]) X531 hx (hb hby d10_28) (XS.store1 rfl hs6 rfl) ?_
    refine E.iload (q := 32) X531 hx (hb hby d10_30) rfl ?_
    refine E.iloadN (q := 33) X531 hx (hb hby d10_32) rfl ?_
    refine E.icmpN (q := 36) X531 hx (hb hby d10_33) (XT.ii_ge_f (by decide)) ?_
    refine E.aload (q := 38) X531 hx (hb hby d10_36) rfl rfl ?_
    refine E.iload (q := 40) X531 hx (hb hby d10_38) rfl ?_
    refine Ends.ild X531 hx hZ e531 A_n2 (i := 0) rfl rfl (hb hby d10_40) ?_
    by_cases hc532 : x20 < (0 : Int32)
    · refine E.ifY (q := 54) X531 hx (hb hby d10_41) (XT.i0_lt_t hc532) ?_
      refine E.iload (q := 56) X531 hx (hb hby d10_54) rfl ?_
      refine E.istoreN (q := 57) (l' := #[.val (.ref oa), .val (.ref ob), .val (.int (0 : Int32)), .val (.int (2 : Int32)), .val (.ref n2), .val (.int bv2), .val (.int (0 : Int32)), s7]) X531 hx (hb hby d10_56) rfl ?_
      refine E.iinc (q := 60) (v := (1 : Int32)) (l' := #[.val (.ref oa), .val (.ref ob), .val (.int (0 : Int32)), .val (.int (2 : Int32)), .val (.ref n2), .val (.int bv2), .val (.int (1 : Int32)), s7]) X531 hx (hb hby d10_57) rfl (by decide) rfl ?_
      refine E.goto (q := 30) X531 hx (hb hby d10_60) ?_
      refine E.iload (q := 32) X531 hx (hb hby d10_30) rfl ?_
      refine E.iloadN (q := 33) X531 hx (hb hby d10_32) rfl ?_
      refine E.icmpY (q := 63) X531 hx (hb hby d10_33) (XT.ii_ge_t (by decide)) ?_
      refine E.iinc (q := 66) (v := (3 : Int32)) (l' := #[.val (.ref oa), .val (.ref ob), .val (.int (0 : Int32)), .val (.int (3 : Int32)), .val (.ref n2), .val (.int bv2), .val (.int (1 : Int32)), s7]) X531 hx (hb hby d10_63) rfl (by decide) rfl ?_
      refine E.goto (q := 7) X531 hx (hb hby d10_66) ?_
      have hst : own_st C2 (2 : Int32) = (0 : Int32) := by rw [hC2]; simp [own_st, own_bi, own_bd, hc532]
      exact JN3_0 T531 (.val (.ref n2)) (.val (.int bv2)) (.val (.int (1 : Int32))) s7 X531 e531 (Or.inr ⟨_, rfl, rfl⟩) (Or.inr ⟨_, rfl, rfl⟩) (Or.inr ⟨_, rfl, rfl⟩) hs7 (hR.trans (congrArg (own_fold [C3, C4, C5]) hst))
    · refine E.ifN (q := 44) X531 hx (hb hby d10_41) (XT.i0_lt_f hc532) ?_
      refine E.aload (q := 46) X531 hx (hb hby d10_44) rfl rfl ?_
      refine E.iload (q := 48) X531 hx (hb hby d10_46) rfl ?_
      refine Ends.ild X531 hx hZ e531 A_n2 (i := 0) rfl rfl (hb hby d10_48) ?_
      refine E.iload (q := 51) X531 hx (hb hby d10_49) rfl ?_
      by_cases hc533 : x20 < bv2
      · refine E.icmpY (q := 57) X531 hx (hb hby d10_51) (XT.ii_lt_t hc533) ?_
        refine E.iinc (q := 60) (v := (1 : Int32)) (l' := #[.val (.ref oa), .val (.ref ob), .val (.int (2 : Int32)), .val (.int (2 : Int32)), .val (.ref n2), .val (.int bv2), .val (.int (1 : Int32)), s7]) X531 hx (hb hby d10_57) rfl (by decide) rfl ?_
        refine E.goto (q := 30) X531 hx (hb hby d10_60) ?_
        refine E.iload (q := 32) X531 hx (hb hby d10_30) rfl ?_
        refine E.iloadN (q := 33) X531 hx (hb hby d10_32) rfl ?_
        refine E.icmpN (q := 36) X531 hx (hb hby d10_33) (XT.ii_ge_f (by decide)) ?_
        refine E.aload (q := 38) X531 hx (hb hby d10_36) rfl rfl ?_
        refine E.iload (q := 40) X531 hx (hb hby d10_38) rfl ?_
        refine Ends.ild X531 hx hZ e531 A_n2 (i := 1) rfl rfl (hb hby d10_40) ?_
        by_cases hc534 : x21 < (0 : Int32)
        · refine E.ifY (q := 54) X531 hx (hb hby d10_41) (XT.i0_lt_t hc534) ?_
          refine E.iload (q := 56) X531 hx (hb hby d10_54) rfl ?_
          refine E.istoreN (q := 57) (l' := #[.val (.ref oa), .val (.ref ob), .val (.int (1 : Int32)), .val (.int (2 : Int32)), .val (.ref n2), .val (.int bv2), .val (.int (1 : Int32)), s7]) X531 hx (hb hby d10_56) rfl ?_
          refine E.iinc (q := 60) (v := (2 : Int32)) (l' := #[.val (.ref oa), .val (.ref ob), .val (.int (1 : Int32)), .val (.int (2 : Int32)), .val (.ref n2), .val (.int bv2), .val (.int (2 : Int32)), s7]) X531 hx (hb hby d10_57) rfl (by decide) rfl ?_
          refine E.goto (q := 30) X531 hx (hb hby d10_60) ?_
          refine E.iload (q := 32) X531 hx (hb hby d10_30) rfl ?_
          refine E.iloadN (q := 33) X531 hx (hb hby d10_32) rfl ?_
          refine E.icmpY (q := 63) X531 hx (hb hby d10_33) (XT.ii_ge_t (by decide)) ?_
          refine E.iinc (q := 66) (v := (3 : Int32)) (l' := #[.val (.ref oa), .val (.ref ob), .val (.int (1 : Int32)), .val (.int (3 : Int32)), .val (.ref n2), .val (.int bv2), .val (.int (2 : Int32)), s7]) X531 hx (hb hby d10_63) rfl (by decide) rfl ?_
          refine E.goto (q := 7) X531 hx (hb hby d10_66) ?_
          have hst : own_st C2 (2 : Int32) = (1 : Int32) := by rw [hC2]; simp [own_st, own_bi, own_bd, hc532, hc533, hc534]
          exact JN3_1 T531 (.val (.ref n2)) (.val (.int bv2)) (.val (.int (2 : Int32))) s7 X531 e531 (Or.inr ⟨_, rfl, rfl⟩) (Or.inr ⟨_, rfl, rfl⟩) (Or.inr ⟨_, rfl, rfl⟩) hs7 (hR.trans (congrArg (own_fold [C3, C4, C5]) hst))
        · refine E.ifN (q := 44) X531 hx (hb hby d10_41) (XT.i0_lt_f hc534) ?_
          refine E.aload (q := 46) X531 hx (hb hby d10_44) rfl rfl ?_
          refine E.iload (q := 48) X531 hx (hb hby d10_46) rfl ?_
          refine Ends.ild X531 hx hZ e531 A_n2 (i := 1) rfl rfl (hb hby d10_48) ?_
          refine E.iload (q := 51) X531 hx (hb hby d10_49) rfl ?_
          by_cases hc535 : x21 < bv2
          · refine E.icmpY (q := 57) X531 hx (hb hby d10_51) (XT.ii_lt_t hc535) ?_
            refine E.iinc (q := 60) (v := (2 : Int32)) (l' := #[.val (.ref oa), .val (.ref ob), .val (.int (2 : Int32)), .val (.int (2 : Int32)), .val (.ref n2), .val (.int bv2), .val (.int (2 : Int32)), s7]) X531 hx (hb hby d10_57) rfl (by decide) rfl ?_
            refine E.goto (q := 30) X531 hx (hb hby d10_60) ?_
            refine E.iload (q := 32) X531 hx (hb hby d10_30) rfl ?_
            refine E.iloadN (q := 33) X531 hx (hb hby d10_32) rfl ?_
            refine E.icmpY (q := 63) X531 hx (hb hby d10_33) (XT.ii_ge_t (by decide)) ?_
            refine E.iinc (q := 66) (v := (3 : Int32)) (l' := #[.val (.ref oa), .val (.ref ob), .val (.int (2 : Int32)), .val (.int (3 : Int32)), .val (.ref n2), .val (.int bv2), .val (.int (2 : Int32)), s7]) X531 hx (hb hby d10_63) rfl (by decide) rfl ?_
            refine E.goto (q := 7) X531 hx (hb hby d10_66) ?_
            have hst : own_st C2 (2 : Int32) = (2 : Int32) := by rw [hC2]; simp [own_st, own_bi, own_bd, hc532, hc533, hc534, hc535]
            exact JN3_2 T531 (.val (.ref n2)) (.val (.int bv2)) (.val (.int (2 : Int32))) s7 X531 e531 (Or.inr ⟨_, rfl, rfl⟩) (Or.inr ⟨_, rfl, rfl⟩) (Or.inr ⟨_, rfl, rfl⟩) hs7 (hR.trans (congrArg (own_fold [C3, C4, C5]) hst))
          · refine E.icmpN (q := 54) X531 hx (hb hby d10_51) (XT.ii_lt_f hc535) ?_
            refine E.iload (q := 56) X531 hx (hb hby d10_54) rfl ?_
            refine E.istoreN (q := 57) (l' := #[.val (.ref oa), .val (.ref ob), .val (.int (1 : Int32)), .val (.int (2 : Int32)), .val (.ref n2), .val (.int bv2), .val (.int (1 : Int32)), s7]) X531 hx (hb hby d10_56) rfl ?_
            refine E.iinc (q := 60) (v := (2 : Int32)) (l' := #[.val (.ref oa), .val (.ref ob), .val (.int (1 : Int32)), .val (.int (2 : Int32)), .val (.ref n2), .val (.int bv2), .val (.int (2 : Int32)), s7]) X531 hx (hb hby d10_57) rfl (by decide) rfl ?_
            refine E.goto (q := 30) X531 hx (hb hby d10_60) ?_
            refine E.iload (q := 32) X531 hx (hb hby d10_30) rfl ?_
            refine E.iloadN (q := 33) X531 hx (hb hby d10_32) rfl ?_
            refine E.icmpY (q := 63) X531 hx (hb hby d10_33) (XT.ii_ge_t (by decide)) ?_
            refine E.iinc (q := 66) (v := (3 : Int32)) (l' := #[.val (.ref oa), .val (.ref ob), .val (.int (1 : Int32)), .val (.int (3 : Int32)), .val (.ref n2), .val (.int bv2), .val (.int (2 : Int32)), s7]) X531 hx (hb hby d10_63) rfl (by decide) rfl ?_
            refine E.goto (q := 7) X531 hx (hb hby d10_66) ?_
            have hst : own_st C2 (2 : Int32) = (1 : Int32) := by rw [hC2]; simp [own_st, own_bi, own_bd, hc532, hc533, hc534, hc535]
            exact JN3_1 T531 (.val (.ref n2)) (.val (.int bv2)) (.val (.int (2 : Int32))) s7 X531 e531 (Or.inr ⟨_, rfl, rfl⟩) (Or.inr ⟨_, rfl, rfl⟩) (Or.inr ⟨_, rfl, rfl⟩) hs7 (hR.trans (congrArg (own_fold [C3, C4, C5]) hst))
      · refine E.icmpN (q := 54) X531 hx (hb hby d10_51) (XT.ii_lt_f hc533) ?_
        refine E.iload (q := 56) X531 hx (hb hby d10_54) rfl ?_
        refine E.istoreN (q := 57) (l' := #[.val (.ref oa), .val (.ref ob), .val (.int (0 : Int32)), .val (.int (2 : Int32)), .val (.ref n2), .val (.int bv2), .val (.int (0 : Int32)), s7]) X531 hx (hb hby d10_56) rfl ?_
        refine E.iinc (q := 60) (v := (1 : Int32)) (l' := #[.val (.ref oa), .val (.ref ob), .val (.int (0 : Int32)), .val (.int (2 : Int32)), .val (.ref n2), .val (.int bv2), .val (.int (1 : Int32)), s7]) X531 hx (hb hby d10_57) rfl (by decide) rfl ?_
        refine E.goto (q := 30) X531 hx (hb hby d10_60) ?_
        refine E.iload (q := 32) X531 hx (hb hby d10_30) rfl ?_
        refine E.iloadN (q := 33) X531 hx (hb hby d10_32) rfl ?_
        refine E.icmpY (q := 63) X531 hx (hb hby d10_33) (XT.ii_ge_t (by decide)) ?_
        refine E.iinc (q := 66) (v := (3 : Int32)) (l' := #[.val (.ref oa), .val (.ref ob), .val (.int (0 : Int32)), .val (.int (3 : Int32)), .val (.ref n2), .val (.int bv2), .val (.int (1 : Int32)), s7]) X531 hx (hb hby d10_63) rfl (by decide) rfl ?_
        refine E.goto (q := 7) X531 hx (hb hby d10_66) ?_
        have hst : own_st C2 (2 : Int32) = (0 : Int32) := by rw [hC2]; simp [own_st, own_bi, own_bd, hc532, hc533]
        exact JN3_0 T531 (.val (.ref n2)) (.val (.int bv2)) (.val (.int (1 : Int32))) s7 X531 e531 (Or.inr ⟨_, rfl, rfl⟩) (Or.inr ⟨_, rfl, rfl⟩) (Or.inr ⟨_, rfl, rfl⟩) hs7 (hR.trans (congrArg (own_fold [C3, C4, C5]) hst))
  have JN1_0 : ∀ (Tj : State) (s4 s5 s6 s7 : Slot), Stand p l e ({ frames := 0, cells := 0, slots := 0, locals := 0 } : Room) s m #[(.ref oa), (.ref ob)] below meth c Tj [] 0 0 → Tj.heap = h0 → (s4 = .unset ∨ ∃ w, s4 = .val w ∧ w.category = 1) → (s5 = .unset ∨ ∃ w, s5 = .val w ∧ w.category = 1) → (s6 = .unset ∨ ∃ w, s6 = .val w ∧ w.category = 1) → (s7 = .unset ∨ ∃ w, s7 = .val w ∧ w.category = 1) → own_fold [C0, C1, C2, C3, C4, C5] nz = own_fold [C1, C2, C3, C4, C5] (0 : Int32) → Ends p e below s (fun v h L => v = some (.int (own_fold [C0, C1, C2, C3, C4, C5] nz)) ∧ h = h0 ∧ L = []) ({ frames := 0, cells := 0, slots := 0, locals := 0 } : Room).cells ({ frames := 0, cells := 0, slots := 0, locals := 0 } : Room).slots Tj (mkF m 7 #[.val (.ref oa), .val (.ref ob), .val (.int (0 : Int32)), .val (.int (1 : Int32)), s4, s5, s6, s7] []) := by
    intro Tj s4 s5 s6 s7 Xj ej hs4 hs5 hs6 hs7 hR
    refine E.iloadN (q := 8) Xj hx (hb hby d10_7) rfl ?_
    refine Ends.getS Xj hx hZ hown (host := "") (Or.inl (hw _ (List.mem_of_getElem? (i := 14) rfl))) Via.refl ej (own_sta_keep S0 O0.1 own_ns0) (hb hby d10_8) ?_
    intro T536 X536 e536
    refine E.icmpN (q := 14) X536 hx (hb hby d10_11) (XT.ii_ge_f (by decide)) ?_
    refine E.aloadN (q := 15) X536 hx (hb hby d10_14) rfl rfl ?_
    refine Ends.getF X536 hx hZ hown (host := "") (Or.inl (hw _ (List.mem_of_getElem? (i := 26) rfl))) Via.refl e536 F_n (hb hby d10_15) ?_
    intro T537 X537 e537
    refine E.iloadN (q := 19) X537 hx (hb hby d10_18) rfl ?_
    refine Ends.ald X537 hx hZ e537 A_nA rfl (i := 1) rfl rfl (hb hby d10_19) ?_
    refine E.astore (q := 22) (l' := #[.val (.ref oa), .val (.ref ob), .val (.int (0 : Int32)), .val (.int (1 : Int32)), .val (.ref n1), s5, s6, s7]) X537 hx (hb hby d10_20) rfl (XS.store1 rfl hs4 rfl) ?_
    refine E.aloadN (q := 23) X537 hx (hb hby d10_22) rfl rfl ?_
    refine E.iloadN (q := 24) X537 hx (hb hby d10_23) rfl ?_
    refine Ends.ild X537 hx hZ e537 A_ob (i := 1) rfl rfl (hb hby d10_24) ?_
    refine E.istore (q := 27) (l' := #[.val (.ref oa), .val (.ref ob), .val (.int (0 : Int32)), .val (.int (1 : Int32)), .val (.ref n1), .val (.int bv1), s6, s7]) X537 hx (hb hby d10_25) (XS.store1 rfl hs5 rfl) ?_
    refine E.iconst (q := 28) (v := (0 : Int32)) X537 hx (hb hby d10_27) rfl ?_
    refine E.istore (q := 30) (l' := #[.val (.ref oa), .val (.ref ob), .val (.int (0 : Int32)), .val (.int (1 : Int32)), .val (.ref n1), .val (.int bv1), .val (.int (0 : Int32)), s7]) X537 hx (hb hby d10_28) (XS.store1 rfl hs6 rfl) ?_
    refine E.iload (q := 32) X537 hx (hb hby d10_30) rfl ?_
    refine E.iloadN (q := 33) X537 hx (hb hby d10_32) rfl ?_
    refine E.icmpY (q := 63) X537 hx (hb hby d10_33) (XT.ii_ge_t (by decide)) ?_
    refine E.iinc (q := 66) (v := (2 : Int32)) (l' := #[.val (.ref oa), .val (.ref ob), .val (.int (0 : Int32)), .val (.int (2 : Int32)), .val (.ref n1), .val (.int bv1), .val (.int (0 : Int32)), s7]) X537 hx (hb hby d10_63) rfl (by decide) rfl ?_
    refine E.goto (q := 7) X537 hx (hb hby d10_66) ?_
    have hst : own_st C1 (0 : Int32) = (0 : Int32) := by rw [hC1]; simp [own_st, own_bi, own_bd]
    exact JN2_0 T537 (.val (.ref n1)) (.val (.int bv1)) (.val (.int (0 : Int32))) s7 X537 e537 (Or.inr ⟨_, rfl, rfl⟩) (Or.inr ⟨_, rfl, rfl⟩) (Or.inr ⟨_, rfl, rfl⟩) hs7 (hR.trans (congrArg (own_fold [C2, C3, C4, C5]) hst))
  have JN1_1 : ∀ (Tj : State) (s4 s5 s6 s7 : Slot), Stand p l e ({ frames := 0, cells := 0, slots := 0, locals := 0 } : Room) s m #[(.ref oa), (.ref ob)] below meth c Tj [] 0 0 → Tj.heap = h0 → (s4 = .unset ∨ ∃ w, s4 = .val w ∧ w.category = 1) → (s5 = .unset ∨ ∃ w, s5 = .val w ∧ w.category = 1) → (s6 = .unset ∨ ∃ w, s6 = .val w ∧ w.category = 1) → (s7 = .unset ∨ ∃ w, s7 = .val w ∧ w.category = 1) → own_fold [C0, C1, C2, C3, C4, C5] nz = own_fold [C1, C2, C3, C4, C5] (1 : Int32) → Ends p e below s (fun v h L => v = some (.int (own_fold [C0, C1, C2, C3, C4, C5] nz)) ∧ h = h0 ∧ L = []) ({ frames := 0, cells := 0, slots := 0, locals := 0 } : Room).cells ({ frames := 0, cells := 0, slots := 0, locals := 0 } : Room).slots Tj (mkF m 7 #[.val (.ref oa), .val (.ref ob), .val (.int (1 : Int32)), .val (.int (1 : Int32)), s4, s5, s6, s7] []) := by
    intro Tj s4 s5 s6 s7 Xj ej hs4 hs5 hs6 hs7 hR
    refine E.iloadN (q := 8) Xj hx (hb hby d10_7) rfl ?_
    refine Ends.getS Xj hx hZ hown (host := "") (Or.inl (hw _ (List.mem_of_getElem? (i := 14) rfl))) Via.refl ej (own_sta_keep S0 O0.1 own_ns0) (hb hby d10_8) ?_
    intro T538 X538 e538
    refine E.icmpN (q := 14) X538 hx (hb hby d10_11) (XT.ii_ge_f (by decide)) ?_
    refine E.aloadN (q := 15) X538 hx (hb hby d10_14) rfl rfl ?_
    refine Ends.getF X538 hx hZ hown (host := "") (Or.inl (hw _ (List.mem_of_getElem? (i := 26) rfl))) Via.refl e538 F_n (hb hby d10_15) ?_
    intro T539 X539 e539
    refine E.iloadN (q := 19) X539 hx (hb hby d10_18) rfl ?_
    refine Ends.ald X539 hx hZ e539 A_nA rfl (i := 1) rfl rfl (hb hby d10_19) ?_
    refine E.astore (q := 22) (l' := #[.val (.ref oa), .val (.ref ob), .val (.int (1 : Int32)), .val (.int (1 : Int32)), .val (.ref n1), s5, s6, s7]) X539 hx (hb hby d10_20) rfl (XS.store1 rfl hs4 rfl) ?_
    refine E.aloadN (q := 23) X539 hx (hb hby d10_22) rfl rfl ?_
    refine E.iloadN (q := 24) X539 hx (hb hby d10_23) rfl ?_
    refine Ends.ild X539 hx hZ e539 A_ob (i := 1) rfl rfl (hb hby d10_24) ?_
    refine E.istore (q := 27) (l' := #[.val (.ref oa), .val (.ref ob), .val (.int (1 : Int32)), .val (.int (1 : Int32)), .val (.ref n1), .val (.int bv1), s6, s7]) X539 hx (hb hby d10_25) (XS.store1 rfl hs5 rfl) ?_
    refine E.iconst (q := 28) (v := (0 : Int32)) X539 hx (hb hby d10_27) rfl ?_
    refine E.istore (q := 30) (l' := #[.val (.ref oa), .val (.ref ob), .val (.int (1 : Int32)), .val (.int (1 : Int32)), .val (.ref n1), .val (.int bv1), .val (.int (0 : Int32)), s7]) X539 hx (hb hby d10_28) (XS.store1 rfl hs6 rfl) ?_
    refine E.iload (q := 32) X539 hx (hb hby d10_30) rfl ?_
    refine E.iloadN (q := 33) X539 hx (hb hby d10_32) rfl ?_
    refine E.icmpN (q := 36) X539 hx (hb hby d10_33) (XT.ii_ge_f (by decide)) ?_
    refine E.aload (q := 38) X539 hx (hb hby d10_36) rfl rfl ?_
    refine E.iload (q := 40) X539 hx (hb hby d10_38) rfl ?_
    refine Ends.ild X539 hx hZ e539 A_n1 (i := 0) rfl rfl (hb hby d10_40) ?_
    by_cases hc540 : x10 < (0 : Int32)
    · refine E.ifY (q := 54) X539 hx (hb hby d10_41) (XT.i0_lt_t hc540) ?_
      refine E.iload (q := 56) X539 hx (hb hby d10_54) rfl ?_
      refine E.istoreN (q := 57) (l' := #[.val (.ref oa), .val (.ref ob), .val (.int (0 : Int32)), .val (.int (1 : Int32)), .val (.ref n1), .val (.int bv1), .val (.int (0 : Int32)), s7]) X539 hx (hb hby d10_56) rfl ?_
      refine E.iinc (q := 60) (v := (1 : Int32)) (l' := #[.val (.ref oa), .val (.ref ob), .val (.int (0 : Int32)), .val (.int (1 : Int32)), .val (.ref n1), .val (.int bv1), .val (.int (1 : Int32)), s7]) X539 hx (hb hby d10_57) rfl (by decide) rfl ?_
      refine E.goto (q := 30) X539 hx (hb hby d10_60) ?_
      refine E.iload (q := 32) X539 hx (hb hby d10_30) rfl ?_
      refine E.iloadN (q := 33) X539 hx (hb hby d10_32) rfl ?_
      refine E.icmpY (q := 63) X539 hx (hb hby d10_33) (XT.ii_ge_t (by decide)) ?_
      refine E.iinc (q := 66) (v := (2 : Int32)) (l' := #[.val (.ref oa), .val (.ref ob), .val (.int (0 : Int32)), .val (.int (2 : Int32)), .val (.ref n1), .val (.int bv1), .val (.int (1 : Int32)), s7]) X539 hx (hb hby d10_63) rfl (by decide) rfl ?_
      refine E.goto (q := 7) X539 hx (hb hby d10_66) ?_
      have hst : own_st C1 (1 : Int32) = (0 : Int32) := by rw [hC1]; simp [own_st, own_bi, own_bd, hc540]
      exact JN2_0 T539 (.val (.ref n1)) (.val (.int bv1)) (.val (.int (1 : Int32))) s7 X539 e539 (Or.inr ⟨_, rfl, rfl⟩) (Or.inr ⟨_, rfl, rfl⟩) (Or.inr ⟨_, rfl, rfl⟩) hs7 (hR.trans (congrArg (own_fold [C2, C3, C4, C5]) hst))
    · refine E.ifN (q := 44) X539 hx (hb hby d10_41) (XT.i0_lt_f hc540) ?_
      refine E.aload (q := 46) X539 hx (hb hby d10_44) rfl rfl ?_
      refine E.iload (q := 48) X539 hx (hb hby d10_46) rfl ?_
      refine Ends.ild X539 hx hZ e539 A_n1 (i := 0) rfl rfl (hb hby d10_48) ?_
      refine E.iload (q := 51) X539 hx (hb hby d10_49) rfl ?_
      by_cases hc541 : x10 < bv1
      · refine E.icmpY (q := 57) X539 hx (hb hby d10_51) (XT.ii_lt_t hc541) ?_
        refine E.iinc (q := 60) (v := (1 : Int32)) (l' := #[.val (.ref oa), .val (.ref ob), .val (.int (1 : Int32)), .val (.int (1 : Int32)), .val (.ref n1), .val (.int bv1), .val (.int (1 : Int32)), s7]) X539 hx (hb hby d10_57) rfl (by decide) rfl ?_
        refine E.goto (q := 30) X539 hx (hb hby d10_60) ?_
        refine E.iload (q := 32) X539 hx (hb hby d10_30) rfl ?_
        refine E.iloadN (q := 33) X539 hx (hb hby d10_32) rfl ?_
        refine E.icmpY (q := 63) X539 hx (hb hby d10_33) (XT.ii_ge_t (by decide)) ?_
        refine E.iinc (q := 66) (v := (2 : Int32)) (l' := #[.val (.ref oa), .val (.ref ob), .val (.int (1 : Int32)), .val (.int (2 : Int32)), .val (.ref n1), .val (.int bv1), .val (.int (1 : Int32)), s7]) X539 hx (hb hby d10_63) rfl (by decide) rfl ?_
        refine E.goto (q := 7) X539 hx (hb hby d10_66) ?_
        have hst : own_st C1 (1 : Int32) = (1 : Int32) := by rw [hC1]; simp [own_st, own_bi, own_bd, hc540, hc541]
        exact JN2_1 T539 (.val (.ref n1)) (.val (.int bv1)) (.val (.int (1 : Int32))) s7 X539 e539 (Or.inr ⟨_, rfl, rfl⟩) (Or.inr ⟨_, rfl, rfl⟩) (Or.inr ⟨_, rfl, rfl⟩) hs7 (hR.trans (congrArg (own_fold [C2, C3, C4, C5]) hst))
      · refine E.icmpN (q := 54) X539 hx (hb hby d10_51) (XT.ii_lt_f hc541) ?_
        refine E.iload (q := 56) X539 hx (hb hby d10_54) rfl ?_
        refine E.istoreN (q := 57) (l' := #[.val (.ref oa), .val (.ref ob), .val (.int (0 : Int32)), .val (.int (1 : Int32)), .val (.ref n1), .val (.int bv1), .val (.int (0 : Int32)), s7]) X539 hx (hb hby d10_56) rfl ?_
        refine E.iinc (q := 60) (v := (1 : Int32)) (l' := #[.val (.ref oa), .val (.ref ob), .val (.int (0 : Int32)), .val (.int (1 : Int32)), .val (.ref n1), .val (.int bv1), .val (.int (1 : Int32)), s7]) X539 hx (hb hby d10_57) rfl (by decide) rfl ?_
        refine E.goto (q := 30) X539 hx (hb hby d10_60) ?_
        refine E.iload (q := 32) X539 hx (hb hby d10_30) rfl ?_
        refine E.iloadN (q := 33) X539 hx (hb hby d10_32) rfl ?_
        refine E.icmpY (q := 63) X539 hx (hb hby d10_33) (XT.ii_ge_t (by decide)) ?_
        refine E.iinc (q := 66) (v := (2 : Int32)) (l' := #[.val (.ref oa), .val (.ref ob), .val (.int (0 : Int32)), .val (.int (2 : Int32)), .val (.ref n1), .val (.int bv1), .val (.int (1 : Int32)), s7]) X539 hx (hb hby d10_63) rfl (by decide) rfl ?_
        refine E.goto (q := 7) X539 hx (hb hby d10_66) ?_
        have hst : own_st C1 (1 : Int32) = (0 : Int32) := by rw [hC1]; simp [own_st, own_bi, own_bd, hc540, hc541]
        exact JN2_0 T539 (.val (.ref n1)) (.val (.int bv1)) (.val (.int (1 : Int32))) s7 X539 e539 (Or.inr ⟨_, rfl, rfl⟩) (Or.inr ⟨_, rfl, rfl⟩) (Or.inr ⟨_, rfl, rfl⟩) hs7 (hR.trans (congrArg (own_fold [C2, C3, C4, C5]) hst))
  have JN1_2 : ∀ (Tj : State) (s4 s5 s6 s7 : Slot), Stand p l e ({ frames := 0, cells := 0, slots := 0, locals := 0 } : Room) s m #[(.ref oa), (.ref ob)] below meth c Tj [] 0 0 → Tj.heap = h0 → (s4 = .unset ∨ ∃ w, s4 = .val w ∧ w.category = 1) → (s5 = .unset ∨ ∃ w, s5 = .val w ∧ w.category = 1) → (s6 = .unset ∨ ∃ w, s6 = .val w ∧ w.category = 1) → (s7 = .unset ∨ ∃ w, s7 = .val w ∧ w.category = 1) → own_fold [C0, C1, C2, C3, C4, C5] nz = own_fold [C1, C2, C3, C4, C5] (2 : Int32) → Ends p e below s (fun v h L => v = some (.int (own_fold [C0, C1, C2, C3, C4, C5] nz)) ∧ h = h0 ∧ L = []) ({ frames := 0, cells := 0, slots := 0, locals := 0 } : Room).cells ({ frames := 0, cells := 0, slots := 0, locals := 0 } : Room).slots Tj (mkF m 7 #[.val (.ref oa), .val (.ref ob), .val (.int (2 : Int32)), .val (.int (1 : Int32)), s4, s5, s6, s7] []) := by
    intro Tj s4 s5 s6 s7 Xj ej hs4 hs5 hs6 hs7 hR
    refine E.iloadN (q := 8) Xj hx (hb hby d10_7) rfl ?_
    refine Ends.getS Xj hx hZ hown (host := "") (Or.inl (hw _ (List.mem_of_getElem? (i := 14) rfl))) Via.refl ej (own_sta_keep S0 O0.1 own_ns0) (hb hby d10_8) ?_
    intro T542 X542 e542
    refine E.icmpN (q := 14) X542 hx (hb hby d10_11) (XT.ii_ge_f (by decide)) ?_
    refine E.aloadN (q := 15) X542 hx (hb hby d10_14) rfl rfl ?_
    refine Ends.getF X542 hx hZ hown (host := "") (Or.inl (hw _ (List.mem_of_getElem? (i := 26) rfl))) Via.refl e542 F_n (hb hby d10_15) ?_
    intro T543 X543 e543
    refine E.iloadN (q := 19) X543 hx (hb hby d10_18) rfl ?_
    refine Ends.ald X543 hx hZ e543 A_nA rfl (i := 1) rfl rfl (hb hby d10_19) ?_
    refine E.astore (q := 22) (l' := #[.val (.ref oa), .val (.ref ob), .val (.int (2 : Int32)), .val (.int (1 : Int32)), .val (.ref n1), s5, s6, s7]) X543 hx (hb hby d10_20) rfl (XS.store1 rfl hs4 rfl) ?_
    refine E.aloadN (q := 23) X543 hx (hb hby d10_22) rfl rfl ?_
    refine E.iloadN (q := 24) X543 hx (hb hby d10_23) rfl ?_
    refine Ends.ild X543 hx hZ e543 A_ob (i := 1) rfl rfl (hb hby d10_24) ?_
    refine E.istore (q := 27) (l' := #[.val (.ref oa), .val (.ref ob), .val (.int (2 : Int32)), .val (.int (1 : Int32)), .val (.ref n1), .val (.int bv1), s6, s7]) X543 hx (hb hby d10_25) (XS.store1 rfl hs5 rfl) ?_
    refine E.iconst (q := 28) (v := (0 : Int32)) X543 hx (hb hby d10_27) rfl ?_
    refine E.istore (q := 30) (l' := #[.val (.ref oa), .val (.ref ob), .val (.int (2 : Int32)), .val (.int (1 : Int32)), .val (.ref n1), .val (.int bv1), .val (.int (0 : Int32)), s7]) X543 hx (hb hby d10_28) (XS.store1 rfl hs6 rfl) ?_
    refine E.iload (q := 32) X543 hx (hb hby d10_30) rfl ?_
    refine E.iloadN (q := 33) X543 hx (hb hby d10_32) rfl ?_
    refine E.icmpN (q := 36) X543 hx (hb hby d10_33) (XT.ii_ge_f (by decide)) ?_
    refine E.aload (q := 38) X543 hx (hb hby d10_36) rfl rfl ?_
    refine E.iload (q := 40) X543 hx (hb hby d10_38) rfl ?_
    refine Ends.ild X543 hx hZ e543 A_n1 (i := 0) rfl rfl (hb hby d10_40) ?_
    by_cases hc544 : x10 < (0 : Int32)
    · refine E.ifY (q := 54) X543 hx (hb hby d10_41) (XT.i0_lt_t hc544) ?_
      refine E.iload (q := 56) X543 hx (hb hby d10_54) rfl ?_
      refine E.istoreN (q := 57) (l' := #[.val (.ref oa), .val (.ref ob), .val (.int (0 : Int32)), .val (.int (1 : Int32)), .val (.ref n1), .val (.int bv1), .val (.int (0 : Int32)), s7]) X543 hx (hb hby d10_56) rfl ?_
      refine E.iinc (q := 60) (v := (1 : Int32)) (l' := #[.val (.ref oa), .val (.ref ob), .val (.int (0 : Int32)), .val (.int (1 : Int32)), .val (.ref n1), .val (.int bv1), .val (.int (1 : Int32)), s7]) X543 hx (hb hby d10_57) rfl (by decide) rfl ?_
      refine E.goto (q := 30) X543 hx (hb hby d10_60) ?_
      refine E.iload (q := 32) X543 hx (hb hby d10_30) rfl ?_
      refine E.iloadN (q := 33) X543 hx (hb hby d10_32) rfl ?_
      refine E.icmpY (q := 63) X543 hx (hb hby d10_33) (XT.ii_ge_t (by decide)) ?_
      refine E.iinc (q := 66) (v := (2 : Int32)) (l' := #[.val (.ref oa), .val (.ref ob), .val (.int (0 : Int32)), .val (.int (2 : Int32)), .val (.ref n1), .val (.int bv1), .val (.int (1 : Int32)), s7]) X543 hx (hb hby d10_63) rfl (by decide) rfl ?_
      refine E.goto (q := 7) X543 hx (hb hby d10_66) ?_
      have hst : own_st C1 (2 : Int32) = (0 : Int32) := by rw [hC1]; simp [own_st, own_bi, own_bd, hc544]
      exact JN2_0 T543 (.val (.ref n1)) (.val (.int bv1)) (.val (.int (1 : Int32))) s7 X543 e543 (Or.inr ⟨_, rfl, rfl⟩) (Or.inr ⟨_, rfl, rfl⟩) (Or.inr ⟨_, rfl, rfl⟩) hs7 (hR.trans (congrArg (own_fold [C2, C3, C4, C5]) hst))
    · refine E.ifN (q := 44) X543 hx (hb hby d10_41) (XT.i0_lt_f hc544) ?_
      refine E.aload (q := 46) X543 hx (hb hby d10_44) rfl rfl ?_
      refine E.iload (q := 48) X543 hx (hb hby d10_46) rfl ?_
      refine Ends.ild X543 hx hZ e543 A_n1 (i := 0) rfl rfl (hb hby d10_48) ?_
      refine E.iload (q := 51) X543 hx (hb hby d10_49) rfl ?_
      by_cases hc545 : x10 < bv1
      · refine E.icmpY (q := 57) X543 hx (hb hby d10_51) (XT.ii_lt_t hc545) ?_
        refine E.iinc (q := 60) (v := (1 : Int32)) (l' := #[.val (.ref oa), .val (.ref ob), .val (.int (2 : Int32)), .val (.int (1 : Int32)), .val (.ref n1), .val (.int bv1), .val (.int (1 : Int32)), s7]) X543 hx (hb hby d10_57) rfl (by decide) rfl ?_
        refine E.goto (q := 30) X543 hx (hb hby d10_60) ?_
        refine E.iload (q := 32) X543 hx (hb hby d10_30) rfl ?_
        refine E.iloadN (q := 33) X543 hx (hb hby d10_32) rfl ?_
        refine E.icmpN (q := 36) X543 hx (hb hby d10_33) (XT.ii_ge_f (by decide)) ?_
        refine E.aload (q := 38) X543 hx (hb hby d10_36) rfl rfl ?_
        refine E.iload (q := 40) X543 hx (hb hby d10_38) rfl ?_
        refine Ends.ild X543 hx hZ e543 A_n1 (i := 1) rfl rfl (hb hby d10_40) ?_
        by_cases hc546 : x11 < (0 : Int32)
        · refine E.ifY (q := 54) X543 hx (hb hby d10_41) (XT.i0_lt_t hc546) ?_
          refine E.iload (q := 56) X543 hx (hb hby d10_54) rfl ?_
          refine E.istoreN (q := 57) (l' := #[.val (.ref oa), .val (.ref ob), .val (.int (1 : Int32)), .val (.int (1 : Int32)), .val (.ref n1), .val (.int bv1), .val (.int (1 : Int32)), s7]) X543 hx (hb hby d10_56) rfl ?_
          refine E.iinc (q := 60) (v := (2 : Int32)) (l' := #[.val (.ref oa), .val (.ref ob), .val (.int (1 : Int32)), .val (.int (1 : Int32)), .val (.ref n1), .val (.int bv1), .val (.int (2 : Int32)), s7]) X543 hx (hb hby d10_57) rfl (by decide) rfl ?_
          refine E.goto (q := 30) X543 hx (hb hby d10_60) ?_
          refine E.iload (q := 32) X543 hx (hb hby d10_30) rfl ?_
          refine E.iloadN (q := 33) X543 hx (hb hby d10_32) rfl ?_
          refine E.icmpY (q := 63) X543 hx (hb hby d10_33) (XT.ii_ge_t (by decide)) ?_
          refine E.iinc (q := 66) (v := (2 : Int32)) (l' := #[.val (.ref oa), .val (.ref ob), .val (.int (1 : Int32)), .val (.int (2 : Int32)), .val (.ref n1), .val (.int bv1), .val (.int (2 : Int32)), s7]) X543 hx (hb hby d10_63) rfl (by decide) rfl ?_
          refine E.goto (q := 7) X543 hx (hb hby d10_66) ?_
          have hst : own_st C1 (2 : Int32) = (1 : Int32) := by rw [hC1]; simp [own_st, own_bi, own_bd, hc544, hc545, hc546]
          exact JN2_1 T543 (.val (.ref n1)) (.val (.int bv1)) (.val (.int (2 : Int32))) s7 X543 e543 (Or.inr ⟨_, rfl, rfl⟩) (Or.inr ⟨_, rfl, rfl⟩) (Or.inr ⟨_, rfl, rfl⟩) hs7 (hR.trans (congrArg (own_fold [C2, C3, C4, C5]) hst))
        · refine E.ifN (q := 44) X543 hx (hb hby d10_41) (XT.i0_lt_f hc546) ?_
          refine E.aload (q := 46) X543 hx (hb hby d10_44) rfl rfl ?_
          refine E.iload (q := 48) X543 hx (hb hby d10_46) rfl ?_
          refine Ends.ild X543 hx hZ e543 A_n1 (i := 1) rfl rfl (hb hby d10_48) ?_
          refine E.iload (q := 51) X543 hx (hb hby d10_49) rfl ?_
          by_cases hc547 : x11 < bv1
          · refine E.icmpY (q := 57) X543 hx (hb hby d10_51) (XT.ii_lt_t hc547) ?_
            refine E.iinc (q := 60) (v := (2 : Int32)) (l' := #[.val (.ref oa), .val (.ref ob), .val (.int (2 : Int32)), .val (.int (1 : Int32)), .val (.ref n1), .val (.int bv1), .val (.int (2 : Int32)), s7]) X543 hx (hb hby d10_57) rfl (by decide) rfl ?_
            refine E.goto (q := 30) X543 hx (hb hby d10_60) ?_
            refine E.iload (q := 32) X543 hx (hb hby d10_30) rfl ?_
            refine E.iloadN (q := 33) X543 hx (hb hby d10_32) rfl ?_
            refine E.icmpY (q := 63) X543 hx (hb hby d10_33) (XT.ii_ge_t (by decide)) ?_
            refine E.iinc (q := 66) (v := (2 : Int32)) (l' := #[.val (.ref oa), .val (.ref ob), .val (.int (2 : Int32)), .val (.int (2 : Int32)), .val (.ref n1), .val (.int bv1), .val (.int (2 : Int32)), s7]) X543 hx (hb hby d10_63) rfl (by decide) rfl ?_
            refine E.goto (q := 7) X543 hx (hb hby d10_66) ?_
            have hst : own_st C1 (2 : Int32) = (2 : Int32) := by rw [hC1]; simp [own_st, own_bi, own_bd, hc544, hc545, hc546, hc547]
            exact JN2_2 T543 (.val (.ref n1)) (.val (.int bv1)) (.val (.int (2 : Int32))) s7 X543 e543 (Or.inr ⟨_, rfl, rfl⟩) (Or.inr ⟨_, rfl, rfl⟩) (Or.inr ⟨_, rfl, rfl⟩) hs7 (hR.trans (congrArg (own_fold [C2, C3, C4, C5]) hst))
          · refine E.icmpN (q := 54) X543 hx (hb hby d10_51) (XT.ii_lt_f hc547) ?_
            refine E.iload (q := 56) X543 hx (hb hby d10_54) rfl ?_
            refine E.istoreN (q := 57) (l' := #[.val (.ref oa), .val (.ref ob), .val (.int (1 : Int32)), .val (.int (1 : Int32)), .val (.ref n1), .val (.int bv1), .val (.int (1 : Int32)), s7]) X543 hx (hb hby d10_56) rfl ?_
            refine E.iinc (q := 60) (v := (2 : Int32)) (l' := #[.val (.ref oa), .val (.ref ob), .val (.int (1 : Int32)), .val (.int (1 : Int32)), .val (.ref n1), .val (.int bv1), .val (.int (2 : Int32)), s7]) X543 hx (hb hby d10_57) rfl (by decide) rfl ?_
            refine E.goto (q := 30) X543 hx (hb hby d10_60) ?_
            refine E.iload (q := 32) X543 hx (hb hby d10_30) rfl ?_
            refine E.iloadN (q := 33) X543 hx (hb hby d10_32) rfl ?_
            refine E.icmpY (q := 63) X543 hx (hb hby d10_33) (XT.ii_ge_t (by decide)) ?_
            refine E.iinc (q := 66) (v := (2 : Int32)) (l' := #[.val (.ref oa), .val (.ref ob), .val (.int (1 : Int32)), .val (.int (2 : Int32)), .val (.ref n1), .val (.int bv1), .val (.int (2 : Int32)), s7]) X543 hx (hb hby d10_63) rfl (by decide) rfl ?_
            refine E.goto (q := 7) X543 hx (hb hby d10_66) ?_
            have hst : own_st C1 (2 : Int32) = (1 : Int32) := by rw [hC1]; simp [own_st, own_bi, own_bd, hc544, hc545, hc546, hc547]
            exact JN2_1 T543 (.val (.ref n1)) (.val (.int bv1)) (.val (.int (2 : Int32))) s7 X543 e543 (Or.inr ⟨_, rfl, rfl⟩) (Or.inr ⟨_, rfl, rfl⟩) (Or.inr ⟨_, rfl, rfl⟩) hs7 (hR.trans (congrArg (own_fold [C2, C3, C4, C5]) hst))
      · refine E.icmpN (q := 54) X543 hx (hb hby d10_51) (XT.ii_lt_f hc545) ?_
        refine E.iload (q := 56) X543 hx (hb hby d10_54) rfl ?_
        refine E.istoreN (q := 57) (l' := #[.val (.ref oa), .val (.ref ob), .val (.int (0 : Int32)), .val (.int (1 : Int32)), .val (.ref n1), .val (.int bv1), .val (.int (0 : Int32)), s7]) X543 hx (hb hby d10_56) rfl ?_
        refine E.iinc (q := 60) (v := (1 : Int32)) (l' := #[.val (.ref oa), .val (.ref ob), .val (.int (0 : Int32)), .val (.int (1 : Int32)), .val (.ref n1), .val (.int bv1), .val (.int (1 : Int32)), s7]) X543 hx (hb hby d10_57) rfl (by decide) rfl ?_
        refine E.goto (q := 30) X543 hx (hb hby d10_60) ?_
        refine E.iload (q := 32) X543 hx (hb hby d10_30) rfl ?_
        refine E.iloadN (q := 33) X543 hx (hb hby d10_32) rfl ?_
        refine E.icmpY (q := 63) X543 hx (hb hby d10_33) (XT.ii_ge_t (by decide)) ?_
        refine E.iinc (q := 66) (v := (2 : Int32)) (l' := #[.val (.ref oa), .val (.ref ob), .val (.int (0 : Int32)), .val (.int (2 : Int32)), .val (.ref n1), .val (.int bv1), .val (.int (1 : Int32)), s7]) X543 hx (hb hby d10_63) rfl (by decide) rfl ?_
        refine E.goto (q := 7) X543 hx (hb hby d10_66) ?_
        have hst : own_st C1 (2 : Int32) = (0 : Int32) := by rw [hC1]; simp [own_st, own_bi, own_bd, hc544, hc545]
        exact JN2_0 T543 (.val (.ref n1)) (.val (.int bv1)) (.val (.int (1 : Int32))) s7 X543 e543 (Or.inr ⟨_, rfl, rfl⟩) (Or.inr ⟨_, rfl, rfl⟩) (Or.inr ⟨_, rfl, rfl⟩) hs7 (hR.trans (congrArg (own_fold [C2, C3, C4, C5]) hst))
  have JN0_0 : ∀ (Tj : State) (s4 s5 s6 s7 : Slot), Stand p l e ({ frames := 0, cells := 0, slots := 0, locals := 0 } : Room) s m #[(.ref oa), (.ref ob)] below meth c Tj [] 0 0 → Tj.heap = h0 → (s4 = .unset ∨ ∃ w, s4 = .val w ∧ w.category = 1) → (s5 = .unset ∨ ∃ w, s5 = .val w ∧ w.category = 1) → (s6 = .unset ∨ ∃ w, s6 = .val w ∧ w.category = 1) → (s7 = .unset ∨ ∃ w, s7 = .val w ∧ w.category = 1) → own_fold [C0, C1, C2, C3, C4, C5] nz = own_fold [C0, C1, C2, C3, C4, C5] (0 : Int32) → Ends p e below s (fun v h L => v = some (.int (own_fold [C0, C1, C2, C3, C4, C5] nz)) ∧ h = h0 ∧ L = []) ({ frames := 0, cells := 0, slots := 0, locals := 0 } : Room).cells ({ frames := 0, cells := 0, slots := 0, locals := 0 } : Room).slots Tj (mkF m 7 #[.val (.ref oa), .val (.ref ob), .val (.int (0 : Int32)), .val (.int (0 : Int32)), s4, s5, s6, s7] []) := by
    intro Tj s4 s5 s6 s7 Xj ej hs4 hs5 hs6 hs7 hR
    refine E.iloadN (q := 8) Xj hx (hb hby d10_7) rfl ?_
    refine Ends.getS Xj hx hZ hown (host := "") (Or.inl (hw _ (List.mem_of_getElem? (i := 14) rfl))) Via.refl ej (own_sta_keep S0 O0.1 own_ns0) (hb hby d10_8) ?_
    intro T548 X548 e548
    refine E.icmpN (q := 14) X548 hx (hb hby d10_11) (XT.ii_ge_f (by decide)) ?_
    refine E.aloadN (q := 15) X548 hx (hb hby d10_14) rfl rfl ?_
    refine Ends.getF X548 hx hZ hown (host := "") (Or.inl (hw _ (List.mem_of_getElem? (i := 26) rfl))) Via.refl e548 F_n (hb hby d10_15) ?_
    intro T549 X549 e549
    refine E.iloadN (q := 19) X549 hx (hb hby d10_18) rfl ?_
    refine Ends.ald X549 hx hZ e549 A_nA rfl (i := 0) rfl rfl (hb hby d10_19) ?_
    refine E.astore (q := 22) (l' := #[.val (.ref oa), .val (.ref ob), .val (.int (0 : Int32)), .val (.int (0 : Int32)), .val (.ref n0), s5, s6, s7]) X549 hx (hb hby d10_20) rfl (XS.store1 rfl hs4 rfl) ?_
    refine E.aloadN (q := 23) X549 hx (hb hby d10_22) rfl rfl ?_
    refine E.iloadN (q := 24) X549 hx (hb hby d10_23) rfl ?_
    refine Ends.ild X549 hx hZ e549 A_ob (i := 0) rfl rfl (hb hby d10_24) ?_
    refine E.istore (q := 27) (l' := #[.val (.ref oa), .val (.ref ob), .val (.int (0 : Int32)), .val (.int (0 : Int32)), .val (.ref n0), .val (.int bv0), s6, s7]) X549 hx (hb hby d10_25) (XS.store1 rfl hs5 rfl) ?_
    refine E.iconst (q := 28) (v := (0 : Int32)) X549 hx (hb hby d10_27) rfl ?_
    refine E.istore (q := 30) (l' := #[.val (.ref oa), .val (.ref ob), .val (.int (0 : Int32)), .val (.int (0 : Int32)), .val (.ref n0), .val (.int bv0), .val (.int (0 : Int32)), s7]) X549 hx (hb hby d10_28) (XS.store1 rfl hs6 rfl) ?_
    refine E.iload (q := 32) X549 hx (hb hby d10_30) rfl ?_
    refine E.iloadN (q := 33) X549 hx (hb hby d10_32) rfl ?_
    refine E.icmpY (q := 63) X549 hx (hb hby d10_33) (XT.ii_ge_t (by decide)) ?_
    refine E.iinc (q := 66) (v := (1 : Int32)) (l' := #[.val (.ref oa), .val (.ref ob), .val (.int (0 : Int32)), .val (.int (1 : Int32)), .val (.ref n0), .val (.int bv0), .val (.int (0 : Int32)), s7]) X549 hx (hb hby d10_63) rfl (by decide) rfl ?_
    refine E.goto (q := 7) X549 hx (hb hby d10_66) ?_
    have hst : own_st C0 (0 : Int32) = (0 : Int32) := by rw [hC0]; simp [own_st, own_bi, own_bd]
    exact JN1_0 T549 (.val (.ref n0)) (.val (.int bv0)) (.val (.int (0 : Int32))) s7 X549 e549 (Or.inr ⟨_, rfl, rfl⟩) (Or.inr ⟨_, rfl, rfl⟩) (Or.inr ⟨_, rfl, rfl⟩) hs7 (hR.trans (congrArg (own_fold [C1, C2, C3, C4, C5]) hst))
  have JN0_1 : ∀ (Tj : State) (s4 s5 s6 s7 : Slot), Stand p l e ({ frames := 0, cells := 0, slots := 0, locals := 0 } : Room) s m #[(.ref oa), (.ref ob)] below meth c Tj [] 0 0 → Tj.heap = h0 → (s4 = .unset ∨ ∃ w, s4 = .val w ∧ w.category = 1) → (s5 = .unset ∨ ∃ w, s5 = .val w ∧ w.category = 1) → (s6 = .unset ∨ ∃ w, s6 = .val w ∧ w.category = 1) → (s7 = .unset ∨ ∃ w, s7 = .val w ∧ w.category = 1) → own_fold [C0, C1, C2, C3, C4, C5] nz = own_fold [C0, C1, C2, C3, C4, C5] (1 : Int32) → Ends p e below s (fun v h L => v = some (.int (own_fold [C0, C1, C2, C3, C4, C5] nz)) ∧ h = h0 ∧ L = []) ({ frames := 0, cells := 0, slots := 0, locals := 0 } : Room).cells ({ frames := 0, cells := 0, slots := 0, locals := 0 } : Room).slots Tj (mkF m 7 #[.val (.ref oa), .val (.ref ob), .val (.int (1 : Int32)), .val (.int (0 : Int32)), s4, s5, s6, s7] []) := by
    intro Tj s4 s5 s6 s7 Xj ej hs4 hs5 hs6 hs7 hR
    refine E.iloadN (q := 8) Xj hx (hb hby d10_7) rfl ?_
    refine Ends.getS Xj hx hZ hown (host := "") (Or.inl (hw _ (List.mem_of_getElem? (i := 14) rfl))) Via.refl ej (own_sta_keep S0 O0.1 own_ns0) (hb hby d10_8) ?_
    intro T550 X550 e550
    refine E.icmpN (q := 14) X550 hx (hb hby d10_11) (XT.ii_ge_f (by decide)) ?_
    refine E.aloadN (q := 15) X550 hx (hb hby d10_14) rfl rfl ?_
    refine Ends.getF X550 hx hZ hown (host := "") (Or.inl (hw _ (List.mem_of_getElem? (i := 26) rfl))) Via.refl e550 F_n (hb hby d10_15) ?_
    intro T551 X551 e551
    refine E.iloadN (q := 19) X551 hx (hb hby d10_18) rfl ?_
    refine Ends.ald X551 hx hZ e551 A_nA rfl (i := 0) rfl rfl (hb hby d10_19) ?_
    refine E.astore (q := 22) (l' := #[.val (.ref oa), .val (.ref ob), .val (.int (1 : Int32)), .val (.int (0 : Int32)), .val (.ref n0), s5, s6, s7]) X551 hx (hb hby d10_20) rfl (XS.store1 rfl hs4 rfl) ?_
    refine E.aloadN (q := 23) X551 hx (hb hby d10_22) rfl rfl ?_
    refine E.iloadN (q := 24) X551 hx (hb hby d10_23) rfl ?_
    refine Ends.ild X551 hx hZ e551 A_ob (i := 0) rfl rfl (hb hby d10_24) ?_
    refine E.istore (q := 27) (l' := #[.val (.ref oa), .val (.ref ob), .val (.int (1 : Int32)), .val (.int (0 : Int32)), .val (.ref n0), .val (.int bv0), s6, s7]) X551 hx (hb hby d10_25) (XS.store1 rfl hs5 rfl) ?_
    refine E.iconst (q := 28) (v := (0 : Int32)) X551 hx (hb hby d10_27) rfl ?_
    refine E.istore (q := 30) (l' := #[.val (.ref oa), .val (.ref ob), .val (.int (1 : Int32)), .val (.int (0 : Int32)), .val (.ref n0), .val (.int bv0), .val (.int (0 : Int32)), s7]) X551 hx (hb hby d10_28) (XS.store1 rfl hs6 rfl) ?_
    refine E.iload (q := 32) X551 hx (hb hby d10_30) rfl ?_
    refine E.iloadN (q := 33) X551 hx (hb hby d10_32) rfl ?_
    refine E.icmpN (q := 36) X551 hx (hb hby d10_33) (XT.ii_ge_f (by decide)) ?_
    refine E.aload (q := 38) X551 hx (hb hby d10_36) rfl rfl ?_
    refine E.iload (q := 40) X551 hx (hb hby d10_38) rfl ?_
    refine Ends.ild X551 hx hZ e551 A_n0 (i := 0) rfl rfl (hb hby d10_40) ?_
    by_cases hc552 : x00 < (0 : Int32)
    · refine E.ifY (q := 54) X551 hx (hb hby d10_41) (XT.i0_lt_t hc552) ?_
      refine E.iload (q := 56) X551 hx (hb hby d10_54) rfl ?_
      refine E.istoreN (q := 57) (l' := #[.val (.ref oa), .val (.ref ob), .val (.int (0 : Int32)), .val (.int (0 : Int32)), .val (.ref n0), .val (.int bv0), .val (.int (0 : Int32)), s7]) X551 hx (hb hby d10_56) rfl ?_
      refine E.iinc (q := 60) (v := (1 : Int32)) (l' := #[.val (.ref oa), .val (.ref ob), .val (.int (0 : Int32)), .val (.int (0 : Int32)), .val (.ref n0), .val (.int bv0), .val (.int (1 : Int32)), s7]) X551 hx (hb hby d10_57) rfl (by decide) rfl ?_
      refine E.goto (q := 30) X551 hx (hb hby d10_60) ?_
      refine E.iload (q := 32) X551 hx (hb hby d10_30) rfl ?_
      refine E.iloadN (q := 33) X551 hx (hb hby d10_32) rfl ?_
      refine E.icmpY (q := 63) X551 hx (hb hby d10_33) (XT.ii_ge_t (by decide)) ?_
      refine E.iinc (q := 66) (v := (1 : Int32)) (l' := #[.val (.ref oa), .val (.ref ob), .val (.int (0 : Int32)), .val (.int (1 : Int32)), .val (.ref n0), .val (.int bv0), .val (.int (1 : Int32)), s7]) X551 hx (hb hby d10_63) rfl (by decide) rfl ?_
      refine E.goto (q := 7) X551 hx (hb hby d10_66) ?_
      have hst : own_st C0 (1 : Int32) = (0 : Int32) := by rw [hC0]; simp [own_st, own_bi, own_bd, hc552]
      exact JN1_0 T551 (.val (.ref n0)) (.val (.int bv0)) (.val (.int (1 : Int32))) s7 X551 e551 (Or.inr ⟨_, rfl, rfl⟩) (Or.inr ⟨_, rfl, rfl⟩) (Or.inr ⟨_, rfl, rfl⟩) hs7 (hR.trans (congrArg (own_fold [C1, C2, C3, C4, C5]) hst))
    · refine E.ifN (q := 44) X551 hx (hb hby d10_41) (XT.i0_lt_f hc552) ?_
      refine E.aload (q := 46) X551 hx (hb hby d10_44) rfl rfl ?_
      refine E.iload (q := 48) X551 hx (hb hby d10_46) rfl ?_
      refine Ends.ild X551 hx hZ e551 A_n0 (i := 0) rfl rfl (hb hby d10_48) ?_
      refine E.iload (q := 51) X551 hx (hb hby d10_49) rfl ?_
      by_cases hc553 : x00 < bv0
      · refine E.icmpY (q := 57) X551 hx (hb hby d10_51) (XT.ii_lt_t hc553) ?_
        refine E.iinc (q := 60) (v := (1 : Int32)) (l' := #[.val (.ref oa), .val (.ref ob), .val (.int (1 : Int32)), .val (.int (0 : Int32)), .val (.ref n0), .val (.int bv0), .val (.int (1 : Int32)), s7]) X551 hx (hb hby d10_57) rfl (by decide) rfl ?_
        refine E.goto (q := 30) X551 hx (hb hby d10_60) ?_
        refine E.iload (q := 32) X551 hx (hb hby d10_30) rfl ?_
        refine E.iloadN (q := 33) X551 hx (hb hby d10_32) rfl ?_
        refine E.icmpY (q := 63) X551 hx (hb hby d10_33) (XT.ii_ge_t (by decide)) ?_
        refine E.iinc (q := 66) (v := (1 : Int32)) (l' := #[.val (.ref oa), .val (.ref ob), .val (.int (1 : Int32)), .val (.int (1 : Int32)), .val (.ref n0), .val (.int bv0), .val (.int (1 : Int32)), s7]) X551 hx (hb hby d10_63) rfl (by decide) rfl ?_
        refine E.goto (q := 7) X551 hx (hb hby d10_66) ?_
        have hst : own_st C0 (1 : Int32) = (1 : Int32) := by rw [hC0]; simp [own_st, own_bi, own_bd, hc552, hc553]
        exact JN1_1 T551 (.val (.ref n0)) (.val (.int bv0)) (.val (.int (1 : Int32))) s7 X551 e551 (Or.inr ⟨_, rfl, rfl⟩) (Or.inr ⟨_, rfl, rfl⟩) (Or.inr ⟨_, rfl, rfl⟩) hs7 (hR.trans (congrArg (own_fold [C1, C2, C3, C4, C5]) hst))
      · refine E.icmpN (q := 54) X551 hx (hb hby d10_51) (XT.ii_lt_f hc553) ?_
        refine E.iload (q := 56) X551 hx (hb hby d10_54) rfl ?_
        refine E.istoreN (q := 57) (l' := #[.val (.ref oa), .val (.ref ob), .val (.int (0 : Int32)), .val (.int (0 : Int32)), .val (.ref n0), .val (.int bv0), .val (.int (0 : Int32)), s7]) X551 hx (hb hby d10_56) rfl ?_
        refine E.iinc (q := 60) (v := (1 : Int32)) (l' := #[.val (.ref oa), .val (.ref ob), .val (.int (0 : Int32)), .val (.int (0 : Int32)), .val (.ref n0), .val (.int bv0), .val (.int (1 : Int32)), s7]) X551 hx (hb hby d10_57) rfl (by decide) rfl ?_
        refine E.goto (q := 30) X551 hx (hb hby d10_60) ?_
        refine E.iload (q := 32) X551 hx (hb hby d10_30) rfl ?_
        refine E.iloadN (q := 33) X551 hx (hb hby d10_32) rfl ?_
        refine E.icmpY (q := 63) X551 hx (hb hby d10_33) (XT.ii_ge_t (by decide)) ?_
        refine E.iinc (q := 66) (v := (1 : Int32)) (l' := #[.val (.ref oa), .val (.ref ob), .val (.int (0 : Int32)), .val (.int (1 : Int32)), .val (.ref n0), .val (.int bv0), .val (.int (1 : Int32)), s7]) X551 hx (hb hby d10_63) rfl (by decide) rfl ?_
        refine E.goto (q := 7) X551 hx (hb hby d10_66) ?_
        have hst : own_st C0 (1 : Int32) = (0 : Int32) := by rw [hC0]; simp [own_st, own_bi, own_bd, hc552, hc553]
        exact JN1_0 T551 (.val (.ref n0)) (.val (.int bv0)) (.val (.int (1 : Int32))) s7 X551 e551 (Or.inr ⟨_, rfl, rfl⟩) (Or.inr ⟨_, rfl, rfl⟩) (Or.inr ⟨_, rfl, rfl⟩) hs7 (hR.trans (congrArg (own_fold [C1, C2, C3, C4, C5]) hst))
  have JN0_2 : ∀ (Tj : State) (s4 s5 s6 s7 : Slot), Stand p l e ({ frames := 0, cells := 0, slots := 0, locals := 0 } : Room) s m #[(.ref oa), (.ref ob)] below meth c Tj [] 0 0 → Tj.heap = h0 → (s4 = .unset ∨ ∃ w, s4 = .val w ∧ w.category = 1) → (s5 = .unset ∨ ∃ w, s5 = .val w ∧ w.category = 1) → (s6 = .unset ∨ ∃ w, s6 = .val w ∧ w.category = 1) → (s7 = .unset ∨ ∃ w, s7 = .val w ∧ w.category = 1) → own_fold [C0, C1, C2, C3, C4, C5] nz = own_fold [C0, C1, C2, C3, C4, C5] (2 : Int32) → Ends p e below s (fun v h L => v = some (.int (own_fold [C0, C1, C2, C3, C4, C5] nz)) ∧ h = h0 ∧ L = []) ({ frames := 0, cells := 0, slots := 0, locals := 0 } : Room).cells ({ frames := 0, cells := 0, slots := 0, locals := 0 } : Room).slots Tj (mkF m 7 #[.val (.ref oa), .val (.ref ob), .val (.int (2 : Int32)), .val (.int (0 : Int32)), s4, s5, s6, s7] []) := by
    intro Tj s4 s5 s6 s7 Xj ej hs4 hs5 hs6 hs7 hR
    refine E.iloadN (q := 8) Xj hx (hb hby d10_7) rfl ?_
    refine Ends.getS Xj hx hZ hown (host := "") (Or.inl (hw _ (List.mem_of_getElem? (i := 14) rfl))) Via.refl ej (own_sta_keep S0 O0.1 own_ns0) (hb hby d10_8) ?_
    intro T554 X554 e554
    refine E.icmpN (q := 14) X554 hx (hb hby d10_11) (XT.ii_ge_f (by decide)) ?_
    refine E.aloadN (q := 15) X554 hx (hb hby d10_14) rfl rfl ?_
    refine Ends.getF X554 hx hZ hown (host := "") (Or.inl (hw _ (List.mem_of_getElem? (i := 26) rfl))) Via.refl e554 F_n (hb hby d10_15) ?_
    intro T555 X555 e555
    refine E.iloadN (q := 19) X555 hx (hb hby d10_18) rfl ?_
    refine Ends.ald X555 hx hZ e555 A_nA rfl (i := 0) rfl rfl (hb hby d10_19) ?_
    refine E.astore (q := 22) (l' := #[.val (.ref oa), .val (.ref ob), .val (.int (2 : Int32)), .val (.int (0 : Int32)), .val (.ref n0), s5, s6, s7]) X555 hx (hb hby d10_20) rfl (XS.store1 rfl hs4 rfl) ?_
    refine E.aloadN (q := 23) X555 hx (hb hby d10_22) rfl rfl ?_
    refine E.iloadN (q := 24) X555 hx (hb hby d10_23) rfl ?_
    refine Ends.ild X555 hx hZ e555 A_ob (i := 0) rfl rfl (hb hby d10_24) ?_
    refine E.istore (q := 27) (l' := #[.val (.ref oa), .val (.ref ob), .val (.int (2 : Int32)), .val (.int (0 : Int32)), .val (.ref n0), .val (.int bv0), s6, s7]) X555 hx (hb hby d10_25) (XS.store1 rfl hs5 rfl) ?_
    refine E.iconst (q := 28) (v := (0 : Int32)) X555 hx (hb hby d10_27) rfl ?_
    refine E.istore (q := 30) (l' := #[.val (.ref oa), .val (.ref ob), .val (.int (2 : Int32)), .val (.int (0 : Int32)), .val (.ref n0), .val (.int bv0), .val (.int (0 : Int32)), s7]) X555 hx (hb hby d10_28) (XS.store1 rfl hs6 rfl) ?_
    refine E.iload (q := 32) X555 hx (hb hby d10_30) rfl ?_
    refine E.iloadN (q := 33) X555 hx (hb hby d10_32) rfl ?_
    refine E.icmpN (q := 36) X555 hx (hb hby d10_33) (XT.ii_ge_f (by decide)) ?_
    refine E.aload (q := 38) X555 hx (hb hby d10_36) rfl rfl ?_
    refine E.iload (q := 40) X555 hx (hb hby d10_38) rfl ?_
    refine Ends.ild X555 hx hZ e555 A_n0 (i := 0) rfl rfl (hb hby d10_40) ?_
    by_cases hc556 : x00 < (0 : Int32)
    · refine E.ifY (q := 54) X555 hx (hb hby d10_41) (XT.i0_lt_t hc556) ?_
      refine E.iload (q := 56) X555 hx (hb hby d10_54) rfl ?_
      refine E.istoreN (q := 57) (l' := #[.val (.ref oa), .val (.ref ob), .val (.int (0 : Int32)), .val (.int (0 : Int32)), .val (.ref n0), .val (.int bv0), .val (.int (0 : Int32)), s7]) X555 hx (hb hby d10_56) rfl ?_
      refine E.iinc (q := 60) (v := (1 : Int32)) (l' := #[.val (.ref oa), .val (.ref ob), .val (.int (0 : Int32)), .val (.int (0 : Int32)), .val (.ref n0), .val (.int bv0), .val (.int (1 : Int32)), s7]) X555 hx (hb hby d10_57) rfl (by decide) rfl ?_
      refine E.goto (q := 30) X555 hx (hb hby d10_60) ?_
      refine E.iload (q := 32) X555 hx (hb hby d10_30) rfl ?_
      refine E.iloadN (q := 33) X555 hx (hb hby d10_32) rfl ?_
      refine E.icmpY (q := 63) X555 hx (hb hby d10_33) (XT.ii_ge_t (by decide)) ?_
      refine E.iinc (q := 66) (v := (1 : Int32)) (l' := #[.val (.ref oa), .val (.ref ob), .val (.int (0 : Int32)), .val (.int (1 : Int32)), .val (.ref n0), .val (.int bv0), .val (.int (1 : Int32)), s7]) X555 hx (hb hby d10_63) rfl (by decide) rfl ?_
      refine E.goto (q := 7) X555 hx (hb hby d10_66) ?_
      have hst : own_st C0 (2 : Int32) = (0 : Int32) := by rw [hC0]; simp [own_st, own_bi, own_bd, hc556]
      exact JN1_0 T555 (.val (.ref n0)) (.val (.int bv0)) (.val (.int (1 : Int32))) s7 X555 e555 (Or.inr ⟨_, rfl, rfl⟩) (Or.inr ⟨_, rfl, rfl⟩) (Or.inr ⟨_, rfl, rfl⟩) hs7 (hR.trans (congrArg (own_fold [C1, C2, C3, C4, C5]) hst))
    · refine E.ifN (q := 44) X555 hx (hb hby d10_41) (XT.i0_lt_f hc556) ?_
      refine E.aload (q := 46) X555 hx (hb hby d10_44) rfl rfl ?_
      refine E.iload (q := 48) X555 hx (hb hby d10_46) rfl ?_
      refine Ends.ild X555 hx hZ e555 A_n0 (i := 0) rfl rfl (hb hby d10_48) ?_
      refine E.iload (q := 51) X555 hx (hb hby d10_49) rfl ?_
      by_cases hc557 : x00 < bv0
      · refine E.icmpY (q := 57) X555 hx (hb hby d10_51) (XT.ii_lt_t hc557) ?_
        refine E.iinc (q := 60) (v := (1 : Int32)) (l' := #[.val (.ref oa), .val (.ref ob), .val (.int (2 : Int32)), .val (.int (0 : Int32)), .val (.ref n0), .val (.int bv0), .val (.int (1 : Int32)), s7]) X555 hx (hb hby d10_57) rfl (by decide) rfl ?_
        refine E.goto (q := 30) X555 hx (hb hby d10_60) ?_
        refine E.iload (q := 32) X555 hx (hb hby d10_30) rfl ?_
        refine E.iloadN (q := 33) X555 hx (hb hby d10_32) rfl ?_
        refine E.icmpN (q := 36) X555 hx (hb hby d10_33) (XT.ii_ge_f (by decide)) ?_
        refine E.aload (q := 38) X555 hx (hb hby d10_36) rfl rfl ?_
        refine E.iload (q := 40) X555 hx (hb hby d10_38) rfl ?_
        refine Ends.ild X555 hx hZ e555 A_n0 (i := 1) rfl rfl (hb hby d10_40) ?_
        by_cases hc558 : x01 < (0 : Int32)
        · refine E.ifY (q := 54) X555 hx (hb hby d10_41) (XT.i0_lt_t hc558) ?_
          refine E.iload (q := 56) X555 hx (hb hby d10_54) rfl ?_
          refine E.istoreN (q := 57) (l' := #[.val (.ref oa), .val (.ref ob), .val (.int (1 : Int32)), .val (.int (0 : Int32)), .val (.ref n0), .val (.int bv0), .val (.int (1 : Int32)), s7]) X555 hx (hb hby d10_56) rfl ?_
          refine E.iinc (q := 60) (v := (2 : Int32)) (l' := #[.val (.ref oa), .val (.ref ob), .val (.int (1 : Int32)), .val (.int (0 : Int32)), .val (.ref n0), .val (.int bv0), .val (.int (2 : Int32)), s7]) X555 hx (hb hby d10_57) rfl (by decide) rfl ?_
          refine E.goto (q := 30) X555 hx (hb hby d10_60) ?_
          refine E.iload (q := 32) X555 hx (hb hby d10_30) rfl ?_
          refine E.iloadN (q := 33) X555 hx (hb hby d10_32) rfl ?_
          refine E.icmpY (q := 63) X555 hx (hb hby d10_33) (XT.ii_ge_t (by decide)) ?_
          refine E.iinc (q := 66) (v := (1 : Int32)) (l' := #[.val (.ref oa), .val (.ref ob), .val (.int (1 : Int32)), .val (.int (1 : Int32)), .val (.ref n0), .val (.int bv0), .val (.int (2 : Int32)), s7]) X555 hx (hb hby d10_63) rfl (by decide) rfl ?_
          refine E.goto (q := 7) X555 hx (hb hby d10_66) ?_
          have hst : own_st C0 (2 : Int32) = (1 : Int32) := by rw [hC0]; simp [own_st, own_bi, own_bd, hc556, hc557, hc558]
          exact JN1_1 T555 (.val (.ref n0)) (.val (.int bv0)) (.val (.int (2 : Int32))) s7 X555 e555 (Or.inr ⟨_, rfl, rfl⟩) (Or.inr ⟨_, rfl, rfl⟩) (Or.inr ⟨_, rfl, rfl⟩) hs7 (hR.trans (congrArg (own_fold [C1, C2, C3, C4, C5]) hst))
        · refine E.ifN (q := 44) X555 hx (hb hby d10_41) (XT.i0_lt_f hc558) ?_
          refine E.aload (q := 46) X555 hx (hb hby d10_44) rfl rfl ?_
          refine E.iload (q := 48) X555 hx (hb hby d10_46) rfl ?_
          refine Ends.ild X555 hx hZ e555 A_n0 (i := 1) rfl rfl (hb hby d10_48) ?_
          refine E.iload (q := 51) X555 hx (hb hby d10_49) rfl ?_
          by_cases hc559 : x01 < bv0
          · refine E.icmpY (q := 57) X555 hx (hb hby d10_51) (XT.ii_lt_t hc559) ?_
            refine E.iinc (q := 60) (v := (2 : Int32)) (l' := #[.val (.ref oa), .val (.ref ob), .val (.int (2 : Int32)), .val (.int (0 : Int32)), .val (.ref n0), .val (.int bv0), .val (.int (2 : Int32)), s7]) X555 hx (hb hby d10_57) rfl (by decide) rfl ?_
            refine E.goto (q := 30) X555 hx (hb hby d10_60) ?_
            refine E.iload (q := 32) X555 hx (hb hby d10_30) rfl ?_
            refine E.iloadN (q := 33) X555 hx (hb hby d10_32) rfl ?_
            refine E.icmpY (q := 63) X555 hx (hb hby d10_33) (XT.ii_ge_t (by decide)) ?_
            refine E.iinc (q := 66) (v := (1 : Int32)) (l' := #[.val (.ref oa), .val (.ref ob), .val (.int (2 : Int32)), .val (.int (1 : Int32)), .val (.ref n0), .val (.int bv0), .val (.int (2 : Int32)), s7]) X555 hx (hb hby d10_63) rfl (by decide) rfl ?_
            refine E.goto (q := 7) X555 hx (hb hby d10_66) ?_
            have hst : own_st C0 (2 : Int32) = (2 : Int32) := by rw [hC0]; simp [own_st, own_bi, own_bd, hc556, hc557, hc558, hc559]
            exact JN1_2 T555 (.val (.ref n0)) (.val (.int bv0)) (.val (.int (2 : Int32))) s7 X555 e555 (Or.inr ⟨_, rfl, rfl⟩) (Or.inr ⟨_, rfl, rfl⟩) (Or.inr ⟨_, rfl, rfl⟩) hs7 (hR.trans (congrArg (own_fold [C1, C2, C3, C4, C5]) hst))
          · refine E.icmpN (q := 54) X555 hx (hb hby d10_51) (XT.ii_lt_f hc559) ?_
            refine E.iload (q := 56) X555 hx (hb hby d10_54) rfl ?_
            refine E.istoreN (q := 57) (l' := #[.val (.ref oa), .val (.ref ob), .val (.int (1 : Int32)), .val (.int (0 : Int32)), .val (.ref n0), .val (.int bv0), .val (.int (1 : Int32)), s7]) X555 hx (hb hby d10_56) rfl ?_
            refine E.iinc (q := 60) (v := (2 : Int32)) (l' := #[.val (.ref oa), .val (.ref ob), .val (.int (1 : Int32)), .val (.int (0 : Int32)), .val (.ref n0), .val (.int bv0), .val (.int (2 : Int32)), s7]) X555 hx (hb hby d10_57) rfl (by decide) rfl ?_
            refine E.goto (q := 30) X555 hx (hb hby d10_60) ?_
            refine E.iload (q := 32) X555 hx (hb hby d10_30) rfl ?_
            refine E.iloadN (q := 33) X555 hx (hb hby d10_32) rfl ?_
            refine E.icmpY (q := 63) X555 hx (hb hby d10_33) (XT.ii_ge_t (by decide)) ?_
            refine E.iinc (q := 66) (v := (1 : Int32)) (l' := #[.val (.ref oa), .val (.ref ob), .val (.int (1 : Int32)), .val (.int (1 : Int32)), .val (.ref n0), .val (.int bv0), .val (.int (2 : Int32)), s7]) X555 hx (hb hby d10_63) rfl (by decide) rfl ?_
            refine E.goto (q := 7) X555 hx (hb hby d10_66) ?_
            have hst : own_st C0 (2 : Int32) = (1 : Int32) := by rw [hC0]; simp [own_st, own_bi, own_bd, hc556, hc557, hc558, hc559]
            exact JN1_1 T555 (.val (.ref n0)) (.val (.int bv0)) (.val (.int (2 : Int32))) s7 X555 e555 (Or.inr ⟨_, rfl, rfl⟩) (Or.inr ⟨_, rfl, rfl⟩) (Or.inr ⟨_, rfl, rfl⟩) hs7 (hR.trans (congrArg (own_fold [C1, C2, C3, C4, C5]) hst))
      · refine E.icmpN (q := 54) X555 hx (hb hby d10_51) (XT.ii_lt_f hc557) ?_
        refine E.iload (q := 56) X555 hx (hb hby d10_54) rfl ?_
        refine E.istoreN (q := 57) (l' := #[.val (.ref oa), .val (.ref ob), .val (.int (0 : Int32)), .val (.int (0 : Int32)), .val (.ref n0), .val (.int bv0), .val (.int (0 : Int32)), s7]) X555 hx (hb hby d10_56) rfl ?_
        refine E.iinc (q := 60) (v := (1 : Int32)) (l' := #[.val (.ref oa), .val (.ref ob), .val (.int (0 : Int32)), .val (.int (0 : Int32)), .val (.ref n0), .val (.int bv0), .val (.int (1 : Int32)), s7]) X555 hx (hb hby d10_57) rfl (by decide) rfl ?_
        refine E.goto (q := 30) X555 hx (hb hby d10_60) ?_
        refine E.iload (q := 32) X555 hx (hb hby d10_30) rfl ?_
        refine E.iloadN (q := 33) X555 hx (hb hby d10_32) rfl ?_
        refine E.icmpY (q := 63) X555 hx (hb hby d10_33) (XT.ii_ge_t (by decide)) ?_
        refine E.iinc (q := 66) (v := (1 : Int32)) (l' := #[.val (.ref oa), .val (.ref ob), .val (.int (0 : Int32)), .val (.int (1 : Int32)), .val (.ref n0), .val (.int bv0), .val (.int (1 : Int32)), s7]) X555 hx (hb hby d10_63) rfl (by decide) rfl ?_
        refine E.goto (q := 7) X555 hx (hb hby d10_66) ?_
        have hst : own_st C0 (2 : Int32) = (0 : Int32) := by rw [hC0]; simp [own_st, own_bi, own_bd, hc556, hc557]
        exact JN1_0 T555 (.val (.ref n0)) (.val (.int bv0)) (.val (.int (1 : Int32))) s7 X555 e555 (Or.inr ⟨_, rfl, rfl⟩) (Or.inr ⟨_, rfl, rfl⟩) (Or.inr ⟨_, rfl, rfl⟩) hs7 (hR.trans (congrArg (own_fold [C1, C2, C3, C4, C5]) hst))
  refine E.aloadN (q := 1) X0 hx (hb hby d10_0) rfl rfl ?_
  refine Ends.getF X0 hx hZ hown (host := "") (Or.inl (hw _ (List.mem_of_getElem? (i := 30) rfl))) Via.refl e0 F_s (hb hby d10_1) ?_
  intro T560 X560 e560
  refine E.istoreN (q := 5) (l' := #[.val (.ref oa), .val (.ref ob), .val (.int nz), .unset, .unset, .unset, .unset, .unset]) X560 hx (hb hby d10_4) rfl ?_
  refine E.iconst (q := 6) (v := (0 : Int32)) X560 hx (hb hby d10_5) rfl ?_
  refine E.istoreN (q := 7) (l' := #[.val (.ref oa), .val (.ref ob), .val (.int nz), .val (.int (0 : Int32)), .unset, .unset, .unset, .unset]) X560 hx (hb hby d10_6) rfl ?_
  rcases hnz with rfl | rfl | rfl
  · exact JN0_0 T560 (.unset) (.unset) (.unset) (.unset) X560 e560 (Or.inl rfl) (Or.inl rfl) (Or.inl rfl) (Or.inl rfl) rfl
  · exact JN0_1 T560 (.unset) (.unset) (.unset) (.unset) X560 e560 (Or.inl rfl) (Or.inl rfl) (Or.inl rfl) (Or.inl rfl) rfl
  · exact JN0_2 T560 (.unset) (.unset) (.unset) (.unset) X560 e560 (Or.inl rfl) (Or.inl rfl) (Or.inl rfl) (Or.inl rfl) rfl
theorem efF1 (m : MethodId) (x0 : Addr) (x1 : Addr) : entryFrame m #[(.ref x0), (.ref x1)] 8 = mkF m 0 #[.val (.ref x0), .val (.ref x1), .unset, .unset, .unset, .unset, .unset, .unset] [] := by first | (simp [entryFrame, mkF, argsToLocals, Value.category]; done) | rfl
set_option maxRecDepth 65536 in
set_option maxHeartbeats 40000000 in
theorem rmF1 (l : Launch) (Z : State) (a0 : Array Value) (hw : ∀ d ∈ tables_1, d.before a0 Z = true) (oa ob : Addr) (nz : Int32) (nA mA n0 n1 n2 n3 m0 m1 m2 m3 : Addr) (x00 x01 x02 x10 x11 x12 x20 x21 x22 x30 x31 x32 : Int32) (y00 y01 y02 y10 y11 y12 y20 y21 y22 y30 y31 y32 : UInt64) (bv0 bv1 bv2 bv3 : Int32) (C0 C1 C2 C3 C4 C5 C6 C7 : Bool × Bool) (h0 : Heap) (hnz : nz = (0 : Int32) ∨ nz = (1 : Int32) ∨ nz = (2 : Int32)) (E0 : Exa Z h0 oa "com/example/hourline/hourline/network/EdgeValues") (F_n : Fld Z h0 oa "com/example/hourline/hourline/network/EdgeValues" "numbers" "[[I" (.ref nA)) (F_m : Fld Z h0 oa "com/example/hourline/hourline/network/EdgeValues" "measures" "[[D" (.ref mA)) (F_s : Fld Z h0 oa "com/example/hourline/hourline/network/EdgeValues" "size" "I" (.int nz)) (S0 : Sta Z h0 "com/example/hourline/hourline/network/EdgeValues" "NUMBERS" "I" (.int (4 : Int32))) (A_ob : Ary Z h0 ob .int [.int bv0, .int bv1, .int bv2, .int bv3]) (A_nA : Ary Z h0 nA (.array .int) [.ref n0, .ref n1, .ref n2, .ref n3]) (A_mA : Ary Z h0 mA (.array .double) [.ref m0, .ref m1, .ref m2, .ref m3]) (A_n0 : Ary Z h0 n0 .int [(.int x00), (.int x01), (.int x02)]) (A_n1 : Ary Z h0 n1 .int [(.int x10), (.int x11), (.int x12)]) (A_n2 : Ary Z h0 n2 .int [(.int x20), (.int x21), (.int x22)]) (A_n3 : Ary Z h0 n3 .int [(.int x30), (.int x31), (.int x32)]) (A_m0 : Ary Z h0 m0 .double [(.double y00), (.double y01), (.double y02)]) (A_m1 : Ary Z h0 m1 .double [(.double y10), (.double y11), (.double y12)]) (A_m2 : Ary Z h0 m2 .double [(.double y20), (.double y21), (.double y22)]) (A_m3 : Ary Z h0 m3 .double [(.double y30), (.double y31), (.double y32)]) (hC0 : C0 = (own_bi x00 bv0, own_bi x01 bv0)) (hC1 : C1 = (own_bi x10 bv1, own_bi x11 bv1)) (hC2 : C2 = (own_bi x20 bv2, own_bi x21 bv2)) (hC3 : C3 = (own_bi x30 bv3, own_bi x31 bv3)) (hC4 : C4 = (own_bd y00, own_bd y01)) (hC5 : C5 = (own_bd y10, own_bd y11)) (hC6 : C6 = (own_bd y20, own_bd y21)) (hC7 : C7 = (own_bd y30, own_bd y31)) :
    Con l (⟨"com/example/hourline/hourline/network/EdgeValues", "firstUnfit", "([I)I"⟩ : MethodName) prog_101_method_33_code 8 (some .int) [] ({ frames := 0, cells := 0, slots := 0, locals := 0 } : Room) #[(.ref oa), (.ref ob)] Z h0 (fun v h L => v = some (.int (own_fold [C0, C1, C2, C3, C4, C5, C6, C7] nz)) ∧ h = h0 ∧ L = []) := by
  refine Con.of (plainFor_of_name pn_1) ?_
  intro p e s m below meth c s₁ hx hZ hby hml hown hnm hret hlk X0 e0
  refine Ends.cast (efF1 m oa ob) ?_
  show Ends p e below s _ _ _ s₁ (mkF m 0 #[.val (.ref oa), .val (.ref ob), .unset, .unset, .unset, .unset, .unset, .unset] [])
  have O0 := Ok.refl h0 []
  have JM4_0 : ∀ (Tj : State) (s6 s7 : Slot), Stand p l e ({ frames := 0, cells := 0, slots := 0, locals := 0 } : Room) s m #[(.ref oa), (.ref ob)] below meth c Tj [] 0 0 → Tj.heap = h0 → (s6 = .unset ∨ ∃ w, s6 = .val w ∧ w.category = 1) → (s7 = .unset ∨ ∃ w, s7 = .val w ∧ w.category = 1) → own_fold [C0, C1, C2, C3, C4, C5, C6, C7] nz = own_fold [] (0 : Int32) → Ends p e below s (fun v h L => v = some (.int (own_fold [C0, C1, C2, C3, C4, C5, C6, C7] nz)) ∧ h = h0 ∧ L = []) ({ frames := 0, cells := 0, slots := 0, locals := 0 } : Room).cells ({ frames := 0, cells := 0, slots := 0, locals := 0 } : Room).slots Tj (mkF m 81 #[.val (.ref oa), .val (.ref ob), .val (.int (0 : Int32)), .val (.ref mA), .val (.int (4 : Int32)), .val (.int (4 : Int32)), s6, s7] []) := by
    intro Tj s6 s7 Xj ej hs6 hs7 hR
    refine E.iload (q := 83) Xj hx (hb hby d10_81) rfl ?_
    refine E.iload (q := 85) Xj hx (hb hby d10_83) rfl ?_
    refine E.icmpY (q := 142) Xj hx (hb hby d10_85) (XT.ii_ge_t (by decide)) ?_
    refine E.iloadN (q := 143) Xj hx (hb hby d10_142) rfl ?_
    exact Ends.retI Xj hx hlk hret (hb hby d10_143) (by decide) (by decide) ⟨congrArg (fun z => some (Value.int z)) hR.symm, ej, rfl⟩
  have JM4_1 : ∀ (Tj : State) (s6 s7 : Slot), Stand p l e ({ frames := 0, cells := 0, slots := 0, locals := 0 } : Room) s m #[(.ref oa), (.ref ob)] below meth c Tj [] 0 0 → Tj.heap = h0 → (s6 = .unset ∨ ∃ w, s6 = .val w ∧ w.category = 1) → (s7 = .unset ∨ ∃ w, s7 = .val w ∧ w.category = 1) → own_fold [C0, C1, C2, C3, C4, C5, C6, C7] nz = own_fold [] (1 : Int32) → Ends p e below s (fun v h L => v = some (.int (own_fold [C0, C1, C2, C3, C4, C5, C6, C7] nz)) ∧ h = h0 ∧ L = []) ({ frames := 0, cells := 0, slots := 0, locals := 0 } : Room).cells ({ frames := 0, cells := 0, slots := 0, locals := 0 } : Room).slots Tj (mkF m 81 #[.val (.ref oa), .val (.ref ob), .val (.int (1 : Int32)), .val (.ref mA), .val (.int (4 : Int32)), .val (.int (4 : Int32)), s6, s7] []) := by
    intro Tj s6 s7 Xj ej hs6 hs7 hR
    refine E.iload (q := 83) Xj hx (hb hby d10_81) rfl ?_
    refine E.iload (q := 85) Xj hx (hb hby d10_83) rfl ?_
    refine E.icmpY (q := 142) Xj hx (hb hby d10_85) (XT.ii_ge_t (by decide)) ?_
    refine E.iloadN (q := 143) Xj hx (hb hby d10_142) rfl ?_
    exact Ends.retI Xj hx hlk hret (hb hby d10_143) (by decide) (by decide) ⟨congrArg (fun z => some (Value.int z)) hR.symm, ej, rfl⟩
  have JM4_2 : ∀ (Tj : State) (s6 s7 : Slot), Stand p l e ({ frames := 0, cells := 0, slots := 0, locals := 0 } : Room) s m #[(.ref oa), (.ref ob)] below meth c Tj [] 0 0 → Tj.heap = h0 → (s6 = .unset ∨ ∃ w, s6 = .val w ∧ w.category = 1) → (s7 = .unset ∨ ∃ w, s7 = .val w ∧ w.category = 1) → own_fold [C0, C1, C2, C3, C4, C5, C6, C7] nz = own_fold [] (2 : Int32) → Ends p e below s (fun v h L => v = some (.int (own_fold [C0, C1, C2, C3, C4, C5, C6, C7] nz)) ∧ h = h0 ∧ L = []) ({ frames := 0, cells := 0, slots := 0, locals := 0 } : Room).cells ({ frames := 0, cells := 0, slots := 0, locals := 0 } : Room).slots Tj (mkF m 81 #[.val (.ref oa), .val (.ref ob), .val (.int (2 : Int32)), .val (.ref mA), .val (.int (4 : Int32)), .val (.int (4 : Int32)), s6, s7] []) := by
    intro Tj s6 s7 Xj ej hs6 hs7 hR
    refine E.iload (q := 83) Xj hx (hb hby d10_81) rfl ?_
    refine E.iload (q := 85) Xj hx (hb hby d10_83) rfl ?_
    refine E.icmpY (q := 142) Xj hx (hb hby d10_85) (XT.ii_ge_t (by decide)) ?_
    refine E.iloadN (q := 143) Xj hx (hb hby d10_142) rfl ?_
    exact Ends.retI Xj hx hlk hret (hb hby d10_143) (by decide) (by decide) ⟨congrArg (fun z => some (Value.int z)) hR.symm, ej, rfl⟩
  have JM3_0 : ∀ (Tj : State) (s6 s7 : Slot), Stand p l e ({ frames := 0, cells := 0, slots := 0, locals := 0 } : Room) s m #[(.ref oa), (.ref ob)] below meth c Tj [] 0 0 → Tj.heap = h0 → (s6 = .unset ∨ ∃ w, s6 = .val w ∧ w.category = 1) → (s7 = .unset ∨ ∃ w, s7 = .val w ∧ w.category = 1) → own_fold [C0, C1, C2, C3, C4, C5, C6, C7] nz = own_fold [C7] (0 : Int32) → Ends p e below s (fun v h L => v = some (.int (own_fold [C0, C1, C2, C3, C4, C5, C6, C7] nz)) ∧ h = h0 ∧ L = []) ({ frames := 0, cells := 0, slots := 0, locals := 0 } : Room).cells ({ frames := 0, cells := 0, slots := 0, locals := 0 } : Room).slots Tj (mkF m 81 #[.val (.ref oa), .val (.ref ob), .val (.int (0 : Int32)), .val (.ref mA), .val (.int (4 : Int32)), .val (.int (3 : Int32)), s6, s7] []) := by
    intro Tj s6 s7 Xj ej hs6 hs7 hR
    refine E.iload (q := 83) Xj hx (hb hby d10_81) rfl ?_
    refine E.iload (q := 85) Xj hx (hb hby d10_83) rfl ?_
    refine E.icmpN (q := 88) Xj hx (hb hby d10_85) (XT.ii_ge_f (by decide)) ?_
    refine E.aloadN (q := 89) Xj hx (hb hby d10_88) rfl rfl ?_
    refine E.iload (q := 91) Xj hx (hb hby d10_89) rfl ?_
    refine Ends.ald Xj hx hZ ej A_mA rfl (i := 3) rfl rfl (hb hby d10_91) ?_
    refine E.astore (q := 94) (l' := #[.val (.ref oa), .val (.ref ob), .val (.int (0 : Int32)), .val (.ref mA), .val (.int (4 : Int32)), .val (.int (3 : Int32)), .val (.ref m3), s7]) Xj hx (hb hby d10_92) rfl (XS.store1 rfl hs6 rfl) ?_
    refine E.iconst (q := 95) (v := (0 : Int32)) Xj hx (hb hby d10_94) rfl ?_
    refine E.istore (q := 97) (l' := #[.val (.ref oa), .val (.ref ob), .val (.int (0 : Int32)), .val (.ref mA), .val (.int (4 : Int32)), .val (.int (3 : Int32)), .val (.ref m3), .val (.int (0 : Int32))]) Xj hx (hb hby d10_95) (XS.store1 rfl hs7 rfl) ?_
    refine E.iload (q := 99) Xj hx (hb hby d10_97) rfl ?_
    refine E.iloadN (q := 100) Xj hx (hb hby d10_99) rfl ?_
    refine E.icmpY (q := 136) Xj hx (hb hby d10_100) (XT.ii_ge_t (by decide)) ?_
    refine E.iinc (q := 139) (v := (4 : Int32)) (l' := #[.val (.ref oa), .val (.ref ob), .val (.int (0 : Int32)), .val (.ref mA), .val (.int (4 : Int32)), .val (.int (4 : Int32)), .val (.ref m3), .val (.int (0 : Int32))]) Xj hx (hb hby d10_136) rfl (by decide) rfl ?_
    refine E.goto (q := 81) Xj hx (hb hby d10_139) ?_
    have hst : own_st C7 (0 : Int32) = (0 : Int32) := by rw [hC7]; simp [own_st, own_bi, own_bd]
    exact JM4_0 Tj (.val (.ref m3)) (.val (.int (0 : Int32))) Xj ej (Or.inr ⟨_, rfl, rfl⟩) (Or.inr ⟨_, rfl, rfl⟩) (hR.trans (congrArg (own_fold []) hst))
  have JM3_1 : ∀ (Tj : State) (s6 s7 : Slot), Stand p l e ({ frames := 0, cells := 0, slots := 0, locals := 0 } : Room) s m #[(.ref oa), (.ref ob)] below meth c Tj [] 0 0 → Tj.heap = h0 → (s6 = .unset ∨ ∃ w, s6 = .val w ∧ w.category = 1) → (s7 = .unset ∨ ∃ w, s7 = .val w ∧ w.category = 1) → own_fold [C0, C1, C2, C3, C4, C5, C6, C7] nz = own_fold [C7] (1 : Int32) → Ends p e below s (fun v h L => v = some (.int (own_fold [C0, C1, C2, C3, C4, C5, C6, C7] nz)) ∧ h = h0 ∧ L = []) ({ frames := 0, cells := 0, slots := 0, locals := 0 } : Room).cells ({ frames := 0, cells := 0, slots := 0, locals := 0 } : Room).slots Tj (mkF m 81 #[.val (.ref oa), .val (.ref ob), .val (.int (1 : Int32)), .val (.ref mA), .val (.int (4 : Int32)), .val (.int (3 : Int32)), s6, s7] []) := by
    intro Tj s6 s7 Xj ej hs6 hs7 hR
    refine E.iload (q := 83) Xj hx (hb hby d10_81) rfl ?_
    refine E.iload (q := 85) Xj hx (hb hby d10_83) rfl ?_
    refine E.icmpN (q := 88) Xj hx (hb hby d10_85) (XT.ii_ge_f (by decide)) ?_
    refine E.aloadN (q := 89) Xj hx (hb hby d10_88) rfl rfl ?_
    refine E.iload (q := 91) Xj hx (hb hby d10_89) rfl ?_
    refine Ends.ald Xj hx hZ ej A_mA rfl (i := 3) rfl rfl (hb hby d10_91) ?_
    refine E.astore (q := 94) (l' := #[.val (.ref oa), .val (.ref ob), .val (.int (1 : Int32)), .val (.ref mA), .val (.int (4 : Int32)), .val (.int (3 : Int32)), .val (.ref m3), s7]) Xj hx (hb hby d10_92) rfl (XS.store1 rfl hs6 rfl) ?_
    refine E.iconst (q := 95) (v := (0 : Int32)) Xj hx (hb hby d10_94) rfl ?_
    refine E.istore (q := 97) (l' := #[.val (.ref oa), .val (.ref ob), .val (.int (1 : Int32)), .val (.ref mA), .val (.int (4 : Int32)), .val (.int (3 : Int32)), .val (.ref m3), .val (.int (0 : Int32))]) Xj hx (hb hby d10_95) (XS.store1 rfl hs7 rfl) ?_
    refine E.iload (q := 99) Xj hx (hb hby d10_97) rfl ?_
    refine E.iloadN (q := 100) Xj hx (hb hby d10_99) rfl ?_
    refine E.icmpN (q := 103) Xj hx (hb hby d10_100) (XT.ii_ge_f (by decide)) ?_
    refine E.aload (q := 105) Xj hx (hb hby d10_103) rfl rfl ?_
    refine E.iload (q := 107) Xj hx (hb hby d10_105) rfl ?_
    refine Ends.dld Xj hx hZ ej A_m3 (i := 0) rfl rfl (hb hby d10_107) ?_
    refine E.ldc2D (q := 111) Xj hx hZ hown (hw _ (List.mem_of_getElem? (i := 75) rfl)) (hb hby d10_108) ?_
    refine E.dcmp (q := 112) Xj hx (hb hby d10_111) ?_
    by_cases hc561 : (cmpValue (FP.dcmp y30 (18442240474082181119 : UInt64)) .l) < (0 : Int32)
    · refine E.ifY (q := 127) Xj hx (hb hby d10_112) (XT.i0_lt_t hc561) ?_
      refine E.iload (q := 129) Xj hx (hb hby d10_127) rfl ?_
      refine E.istoreN (q := 130) (l' := #[.val (.ref oa), .val (.ref ob), .val (.int (0 : Int32)), .val (.ref mA), .val (.int (4 : Int32)), .val (.int (3 : Int32)), .val (.ref m3), .val (.int (0 : Int32))]) Xj hx (hb hby d10_129) rfl ?_
      refine E.iinc (q := 133) (v := (1 : Int32)) (l' := #[.val (.ref oa), .val (.ref ob), .val (.int (0 : Int32)), .val (.ref mA), .val (.int (4 : Int32)), .val (.int (3 : Int32)), .val (.ref m3), .val (.int (1 : Int32))]) Xj hx (hb hby d10_130) rfl (by decide) rfl ?_
      refine E.goto (q := 97) Xj hx (hb hby d10_133) ?_
      refine E.iload (q := 99) Xj hx (hb hby d10_97) rfl ?_
      refine E.iloadN (q := 100) Xj hx (hb hby d10_99) rfl ?_
      refine E.icmpY (q := 136) Xj hx (hb hby d10_100) (XT.ii_ge_t (by decide)) ?_
      refine E.iinc (q := 139) (v := (4 : Int32)) (l' := #[.val (.ref oa), .val (.ref ob), .val (.int (0 : Int32)), .val (.ref mA), .val (.int (4 : Int32)), .val (.int (4 : Int32)), .val (.ref m3), .val (.int (1 : Int32))]) Xj hx (hb hby d10_136) rfl (by decide) rfl ?_
      refine E.goto (q := 81) Xj hx (hb hby d10_139) ?_
      have hst : own_st C7 (1 : Int32) = (0 : Int32) := by rw [hC7]; simp [own_st, own_bi, own_bd, hc561]
      exact JM4_0 Tj (.val (.ref m3)) (.val (.int (1 : Int32))) Xj ej (Or.inr ⟨_, rfl, rfl⟩) (Or.inr ⟨_, rfl, rfl⟩) (hR.trans (congrArg (own_fold []) hst))
    · refine E.ifN (q := 115) Xj hx (hb hby d10_112) (XT.i0_lt_f hc561) ?_
      refine E.aload (q := 117) Xj hx (hb hby d10_115) rfl rfl ?_
      refine E.iload (q := 119) Xj hx (hb hby d10_117) rfl ?_
      refine Ends.dld Xj hx hZ ej A_m3 (i := 0) rfl rfl (hb hby d10_119) ?_
      refine E.ldc2D (q := 123) Xj hx hZ hown (hw _ (List.mem_of_getElem? (i := 76) rfl)) (hb hby d10_120) ?_
      refine E.dcmp (q := 124) Xj hx (hb hby d10_123) ?_
      by_cases hc562 : (0 : Int32) < (cmpValue (FP.dcmp y30 (9218868437227405311 : UInt64)) .g)
      · refine E.ifN (q := 127) Xj hx (hb hby d10_124) (XT.i0_le_f hc562) ?_
        refine E.iload (q := 129) Xj hx (hb hby d10_127) rfl ?_
        refine E.istoreN (q := 130) (l' := #[.val (.ref oa), .val (.ref ob), .val (.int (0 : Int32)), .val (.ref mA), .val (.int (4 : Int32)), .val (.int (3 : Int32)), .val (.ref m3), .val (.int (0 : Int32))]) Xj hx (hb hby d10_129) rfl ?_
        refine E.iinc (q := 133) (v := (1 : Int32)) (l' := #[.val (.ref oa), .val (.ref ob), .val (.int (0 : Int32)), .val (.ref mA), .val (.int (4 : Int32)), .val (.int (3 : Int32)), .val (.ref m3), .val (.int (1 : Int32))]) Xj hx (hb hby d10_130) rfl (by decide) rfl ?_
        refine E.goto (q := 97) Xj hx (hb hby d10_133) ?_
        refine E.iload (q := 99) Xj hx (hb hby d10_97) rfl ?_
        refine E.iloadN (q := 100) Xj hx (hb hby d10_99) rfl ?_
        refine E.icmpY (q := 136) Xj hx (hb hby d10_100) (XT.ii_ge_t (by decide)) ?_
        refine E.iinc (q := 139) (v := (4 : Int32)) (l' := #[.val (.ref oa), .val (.ref ob), .val (.int (0 : Int32)), .val (.ref mA), .val (.int (4 : Int32)), .val (.int (4 : Int32)), .val (.ref m3), .val (.int (1 : Int32))]) Xj hx (hb hby d10_136) rfl (by decide) rfl ?_
        refine E.goto (q := 81) Xj hx (hb hby d10_139) ?_
        have hst : own_st C7 (1 : Int32) = (0 : Int32) := by rw [hC7]; simp [own_st, own_bi, own_bd, hc561, hc562]
        exact JM4_0 Tj (.val (.ref m3)) (.val (.int (1 : Int32))) Xj ej (Or.inr ⟨_, rfl, rfl⟩) (Or.inr ⟨_, rfl, rfl⟩) (hR.trans (congrArg (own_fold []) hst))
      · refine E.ifY (q := 130) Xj hx (hb hby d10_124) (XT.i0_le_t hc562) ?_
        refine E.iinc (q := 133) (v := (1 : Int32)) (l' := #[.val (.ref oa), .val (.ref ob), .val (.int (1 : Int32)), .val (.ref mA), .val (.int (4 : Int32)), .val (.int (3 : Int32)), .val (.ref m3), .val (.int (1 : Int32))]) Xj hx (hb hby d10_130) rfl (by decide) rfl ?_
        refine E.goto (q := 97) Xj hx (hb hby d10_133) ?_
        refine E.iload (q := 99) Xj hx (hb hby d10_97) rfl ?_
        refine E.iloadN (q := 100) Xj hx (hb hby d10_99) rfl ?_
        refine E.icmpY (q := 136) Xj hx (hb hby d10_100) (XT.ii_ge_t (by decide)) ?_
        refine E.iinc (q := 139) (v := (4 : Int32)) (l' := #[.val (.ref oa), .val (.ref ob), .val (.int (1 : Int32)), .val (.ref mA), .val (.int (4 : Int32)), .val (.int (4 : Int32)), .val (.ref m3), .val (.int (1 : Int32))]) Xj hx (hb hby d10_136) rfl (by decide) rfl ?_
        refine E.goto (q := 81) Xj hx (hb hby d10_139) ?_
        have hst : own_st C7 (1 : Int32) = (1 : Int32) := by rw [hC7]; simp [own_st, own_bi, own_bd, hc561, hc562]
        exact JM4_1 Tj (.val (.ref m3)) (.val (.int (1 : Int32))) Xj ej (Or.inr ⟨_, rfl, rfl⟩) (Or.inr ⟨_, rfl, rfl⟩) (hR.trans (congrArg (own_fold []) hst))
  have JM3_2 : ∀ (Tj : State) (s6 s7 : Slot), Stand p l e ({ frames := 0, cells := 0, slots := 0, locals := 0 } : Room) s m #[(.ref oa), (.ref ob)] below meth c Tj [] 0 0 → Tj.heap = h0 → (s6 = .unset ∨ ∃ w, s6 = .val w ∧ w.category = 1) → (s7 = .unset ∨ ∃ w, s7 = .val w ∧ w.category = 1) → own_fold [C0, C1, C2, C3, C4, C5, C6, C7] nz = own_fold [C7] (2 : Int32) → Ends p e below s (fun v h L => v = some (.int (own_fold [C0, C1, C2, C3, C4, C5, C6, C7] nz)) ∧ h = h0 ∧ L = []) ({ frames := 0, cells := 0, slots := 0, locals := 0 } : Room).cells ({ frames := 0, cells := 0, slots := 0, locals := 0 } : Room).slots Tj (mkF m 81 #[.val (.ref oa), .val (.ref ob), .val (.int (2 : Int32)), .val (.ref mA), .val (.int (4 : Int32)), .val (.int (3 : Int32)), s6, s7] []) := by
    intro Tj s6 s7 Xj ej hs6 hs7 hR
    refine E.iload (q := 83) Xj hx (hb hby d10_81) rfl ?_
    refine E.iload (q := 85) Xj hx (hb hby d10_83) rfl ?_
    refine E.icmpN (q := 88) Xj hx (hb hby d10_85) (XT.ii_ge_f (by decide)) ?_
    refine E.aloadN (q := 89) Xj hx (hb hby d10_88) rfl rfl ?_
    refine E.iload (q := 91) Xj hx (hb hby d10_89) rfl ?_
    refine Ends.ald Xj hx hZ ej A_mA rfl (i := 3) rfl rfl (hb hby d10_91) ?_
    refine E.astore (q := 94) (l' := #[.val (.ref oa), .val (.ref ob), .val (.int (2 : Int32)), .val (.ref mA), .val (.int (4 : Int32)), .val (.int (3 : Int32)), .val (.ref m3), s7]) Xj hx (hb hby d10_92) rfl (XS.store1 rfl hs6 rfl) ?_
    refine E.iconst (q := 95) (v := (0 : Int32)) Xj hx (hb hby d10_94) rfl ?_
    refine E.istore (q := 97) (l' := #[.val (.ref oa), .val (.ref ob), .val (.int (2 : Int32)), .val (.ref mA), .val (.int (4 : Int32)), .val (.int (3 : Int32)), .val (.ref m3), .val (.int (0 : Int32))]) Xj hx (hb hby d10_95) (XS.store1 rfl hs7 rfl) ?_
    refine E.iload (q := 99) Xj hx (hb hby d10_97) rfl ?_
    refine E.iloadN (q := 100) Xj hx (hb hby d10_99) rfl ?_
    refine E.icmpN (q := 103) Xj hx (hb hby d10_100) (XT.ii_ge_f (by decide)) ?_
    refine E.aload (q := 105) Xj hx (hb hby d10_103) rfl rfl ?_
    refine E.iload (q := 107) Xj hx (hb hby d10_105) rfl ?_
    refine Ends.dld Xj hx hZ ej A_m3 (i := 0) rfl rfl (hb hby d10_107) ?_
    refine E.ldc2D (q := 111) Xj hx hZ hown (hw _ (List.mem_of_getElem? (i := 75) rfl)) (hb hby d10_108) ?_
    refine E.dcmp (q := 112) Xj hx (hb hby d10_111) ?_
    by_cases hc563 : (cmpValue (FP.dcmp y30 (18442240474082181119 : UInt64)) .l) < (0 : Int32)
    · refine E.ifY (q := 127) Xj hx (hb hby d10_112) (XT.i0_lt_t hc563) ?_
      refine E.iload (q := 129) Xj hx (hb hby d10_127) rfl ?_
      refine E.istoreN (q := 130) (l' := #[.val (.ref oa), .val (.ref ob), .val (.int (0 : Int32)), .val (.ref mA), .val (.int (4 : Int32)), .val (.int (3 : Int32)), .val (.ref m3), .val (.int (0 : Int32))]) Xj hx (hb hby d10_129) rfl ?_
      refine E.iinc (q := 133) (v := (1 : Int32)) (l' := #[.val (.ref oa), .val (.ref ob), .val (.int (0 : Int32)), .val (.ref mA), .val (.int (4 : Int32)), .val (.int (3 : Int32)), .val (.ref m3), .val (.int (1 : Int32))]) Xj hx (hb hby d10_130) rfl (by decide) rfl ?_
      refine E.goto (q := 97) Xj hx (hb hby d10_133) ?_
      refine E.iload (q := 99) Xj hx (hb hby d10_97) rfl ?_
      refine E.iloadN (q := 100) Xj hx (hb hby d10_99) rfl ?_
      refine E.icmpY (q := 136) Xj hx (hb hby d10_100) (XT.ii_ge_t (by decide)) ?_
      refine E.iinc (q := 139) (v := (4 : Int32)) (l' := #[.val (.ref oa), .val (.ref ob), .val (.int (0 : Int32)), .val (.ref mA), .val (.int (4 : Int32)), .val (.int (4 : Int32)), .val (.ref m3), .val (.int (1 : Int32))]) Xj hx (hb hby d10_136) rfl (by decide) rfl ?_
      refine E.goto (q := 81) Xj hx (hb hby d10_139) ?_
      have hst : own_st C7 (2 : Int32) = (0 : Int32) := by rw [hC7]; simp [own_st, own_bi, own_bd, hc563]
      exact JM4_0 Tj (.val (.ref m3)) (.val (.int (1 : Int32))) Xj ej (Or.inr ⟨_, rfl, rfl⟩) (Or.inr ⟨_, rfl, rfl⟩) (hR.trans (congrArg (own_fold []) hst))
    · refine E.ifN (q := 115) Xj hx (hb hby d10_112) (XT.i0_lt_f hc563) ?_
      refine E.aload (q := 117) Xj hx (hb hby d10_115) rfl rfl ?_
      refine E.iload (q := 119) Xj hx (hb hby d10_117) rfl ?_
      refine Ends.dld Xj hx hZ ej A_m3 (i := 0) rfl rfl (hb hby d10_119) ?_
      refine E.ldc2D (q := 123) Xj hx hZ hown (hw _ (List.mem_of_getElem? (i := 76) rfl)) (hb hby d10_120) ?_
      refine E.dcmp (q := 124) Xj hx (hb hby d10_123) ?_
      by_cases hc564 : (0 : Int32) < (cmpValue (FP.dcmp y30 (9218868437227405311 : UInt64)) .g)
      · refine E.ifN (q := 127) Xj hx (hb hby d10_124) (XT.i0_le_f hc564) ?_
        refine E.iload (q := 129) Xj hx (hb hby d10_127) rfl ?_
        refine E.istoreN (q := 130) (l' := #[.val (.ref oa), .val (.ref ob), .val (.int (0 : Int32)), .val (.ref mA), .val (.int (4 : Int32)), .val (.int (3 : Int32)), .val (.ref m3), .val (.int (0 : Int32))]) Xj hx (hb hby d10_129) rfl ?_
        refine E.iinc (q := 133) (v := (1 : Int32)) (l' := #[.val (.ref oa), .val (.ref ob), .val (.int (0 : Int32)), .val (.ref mA), .val (.int (4 : Int32)), .val (.int (3 : Int32)), .val (.ref m3), .val (.int (1 : Int32))]) Xj hx (hb hby d10_130) rfl (by decide) rfl ?_
        refine E.goto (q := 97) Xj hx (hb hby d10_133) ?_
        refine E.iload (q := 99) Xj hx (hb hby d10_97) rfl ?_
        refine E.iloadN (q := 100) Xj hx (hb hby d10_99) rfl ?_
        refine E.icmpY (q := 136) Xj hx (hb hby d10_100) (XT.ii_ge_t (by decide)) ?_
        refine E.iinc (q := 139) (v := (4 : Int32)) (l' := #[.val (.ref oa), .val (.ref ob), .val (.int (0 : Int32)), .val (.ref mA), .val (.int (4 : Int32)), .val (.int (4 : Int32)), .val (.ref m3), .val (.int (1 : Int32))]) Xj hx (hb hby d10_136) rfl (by decide) rfl ?_
        refine E.goto (q := 81) Xj hx (hb hby d10_139) ?_
        have hst : own_st C7 (2 : Int32) = (0 : Int32) := by rw [hC7]; simp [own_st, own_bi, own_bd, hc563, hc564]
        exact JM4_0 Tj (.val (.ref m3)) (.val (.int (1 : Int32))) Xj ej (Or.inr ⟨_, rfl, rfl⟩) (Or.inr ⟨_, rfl, rfl⟩) (hR.trans (congrArg (own_fold []) hst))
      · refine E.ifY (q := 130) Xj hx (hb hby d10_124) (XT.i0_le_t hc564) ?_
        refine E.iinc (q := 133) (v := (1 : Int32)) (l' := #[.val (.ref oa), .val (.ref ob), .val (.int (2 : Int32)), .val (.ref mA), .val (.int (4 : Int32)), .val (.int (3 : Int32)), .val (.ref m3), .val (.int (1 : Int32))]) Xj hx (hb hby d10_130) rfl (by decide) rfl ?_
        refine E.goto (q := 97) Xj hx (hb hby d10_133) ?_
        refine E.iload (q := 99) Xj hx (hb hby d10_97) rfl ?_
        refine E.iloadN (q := 100) Xj hx (hb hby d10_99) rfl ?_
        refine E.icmpN (q := 103) Xj hx (hb hby d10_100) (XT.ii_ge_f (by decide)) ?_
        refine E.aload (q := 105) Xj hx (hb hby d10_103) rfl rfl ?_
        refine E.iload (q := 107) Xj hx (hb hby d10_105) rfl ?_
        refine Ends.dld Xj hx hZ ej A_m3 (i := 1) rfl rfl (hb hby d10_107) ?_
        refine E.ldc2D (q := 111) Xj hx hZ hown (hw _ (List.mem_of_getElem? (i := 75) rfl)) (hb hby d10_108) ?_
        refine E.dcmp (q := 112) Xj hx (hb hby d10_111) ?_
        by_cases hc565 : (cmpValue (FP.dcmp y31 (18442240474082181119 : UInt64)) .l) < (0 : Int32)
        · refine E.ifY (q := 127) Xj hx (hb hby d10_112) (XT.i0_lt_t hc565) ?_
          refine E.iload (q := 129) Xj hx (hb hby d10_127) rfl ?_
          refine E.istoreN (q := 130) (l' := #[.val (.ref oa), .val (.ref ob), .val (.int (1 : Int32)), .val (.ref mA), .val (.int (4 : Int32)), .val (.int (3 : Int32)), .val (.ref m3), .val (.int (1 : Int32))]) Xj hx (hb hby d10_129) rfl ?_
          refine E.iinc (q := 133) (v := (2 : Int32)) (l' := #[.val (.ref oa), .val (.ref ob), .val (.int (1 : Int32)), .val (.ref mA), .val (.int (4 : Int32)), .val (.int (3 : Int32)), .val (.ref m3), .val (.int (2 : Int32))]) Xj hx (hb hby d10_130) rfl (by decide) rfl ?_
          refine E.goto (q := 97) Xj hx (hb hby d10_133) ?_
          refine E.iload (q := 99) Xj hx (hb hby d10_97) rfl ?_
          refine E.iloadN (q := 100) Xj hx (hb hby d10_99) rfl ?_
          refine E.icmpY (q := 136) Xj hx (hb hby d10_100) (XT.ii_ge_t (by decide)) ?_
          refine E.iinc (q := 139) (v := (4 : Int32)) (l' := #[.val (.ref oa), .val (.ref ob), .val (.int (1 : Int32)), .val (.ref mA), .val (.int (4 : Int32)), .val (.int (4 : Int32)), .val (.ref m3), .val (.int (2 : Int32))]) Xj hx (hb hby d10_136) rfl (by decide) rfl ?_
          refine E.goto (q := 81) Xj hx (hb hby d10_139) ?_
          have hst : own_st C7 (2 : Int32) = (1 : Int32) := by rw [hC7]; simp [own_st, own_bi, own_bd, hc563, hc564, hc565]
          exact JM4_1 Tj (.val (.ref m3)) (.val (.int (2 : Int32))) Xj ej (Or.inr ⟨_, rfl, rfl⟩) (Or.inr ⟨_, rfl, rfl⟩) (hR.trans (congrArg (own_fold []) hst))
        · refine E.ifN (q := 115) Xj hx (hb hby d10_112) (XT.i0_lt_f hc565) ?_
          refine E.aload (q := 117) Xj hx (hb hby d10_115) rfl rfl ?_
          refine E.iload (q := 119) Xj hx (hb hby d10_117) rfl ?_
          refine Ends.dld Xj hx hZ ej A_m3 (i := 1) rfl rfl (hb hby d10_119) ?_
          refine E.ldc2D (q := 123) Xj hx hZ hown (hw _ (List.mem_of_getElem? (i := 76) rfl)) (hb hby d10_120) ?_
          refine E.dcmp (q := 124) Xj hx (hb hby d10_123) ?_
          by_cases hc566 : (0 : Int32) < (cmpValue (FP.dcmp y31 (9218868437227405311 : UInt64)) .g)
          · refine E.ifN (q := 127) Xj hx (hb hby d10_124) (XT.i0_le_f hc566) ?_
            refine E.iload (q := 129) Xj hx (hb hby d10_127) rfl ?_
            refine E.istoreN (q := 130) (l' := #[.val (.ref oa), .val (.ref ob), .val (.int (1 : Int32)), .val (.ref mA), .val (.int (4 : Int32)), .val (.int (3 : Int32)), .val (.ref m3), .val (.int (1 : Int32))]) Xj hx (hb hby d10_129) rfl ?_
            refine E.iinc (q := 133) (v := (2 : Int32)) (l' := #[.val (.ref oa), .val (.ref ob), .val (.int (1 : Int32)), .val (.ref mA), .val (.int (4 : Int32)), .val (.int (3 : Int32)), .val (.ref m3), .val (.int (2 : Int32))]) Xj hx (hb hby d10_130) rfl (by decide) rfl ?_
            refine E.goto (q := 97) Xj hx (hb hby d10_133) ?_
            refine E.iload (q := 99) Xj hx (hb hby d10_97) rfl ?_
            refine E.iloadN (q := 100) Xj hx (hb hby d10_99) rfl ?_
            refine E.icmpY (q := 136) Xj hx (hb hby d10_100) (XT.ii_ge_t (by decide)) ?_
            refine E.iinc (q := 139) (v := (4 : Int32)) (l' := #[.val (.ref oa), .val (.ref ob), .val (.int (1 : Int32)), .val (.ref mA), .val (.int (4 : Int32)), .val (.int (4 : Int32)), .val (.ref m3), .val (.int (2 : Int32))]) Xj hx (hb hby d10_136) rfl (by decide) rfl ?_
            refine E.goto (q := 81) Xj hx (hb hby d10_139) ?_
            have hst : own_st C7 (2 : Int32) = (1 : Int32) := by rw [hC7]; simp [own_st, own_bi, own_bd, hc563, hc564, hc565, hc566]
            exact JM4_1 Tj (.val (.ref m3)) (.val (.int (2 : Int32))) Xj ej (Or.inr ⟨_, rfl, rfl⟩) (Or.inr ⟨_, rfl, rfl⟩) (hR.trans (congrArg (own_fold []) hst))
          · refine E.ifY (q := 130) Xj hx (hb hby d10_124) (XT.i0_le_t hc566) ?_
            refine E.iinc (q := 133) (v := (2 : Int32)) (l' := #[.val (.ref oa), .val (.ref ob), .val (.int (2 : Int32)), .val (.ref mA), .val (.int (4 : Int32)), .val (.int (3 : Int32)), .val (.ref m3), .val (.int (2 : Int32))]) Xj hx (hb hby d10_130) rfl (by decide) rfl ?_
            refine E.goto (q := 97) Xj hx (hb hby d10_133) ?_
            refine E.iload (q := 99) Xj hx (hb hby d10_97) rfl ?_
            refine E.iloadN (q := 100) Xj hx (hb hby d10_99) rfl ?_
            refine E.icmpY (q := 136) Xj hx (hb hby d10_100) (XT.ii_ge_t (by decide)) ?_
            refine E.iinc (q := 139) (v := (4 : Int32)) (l' := #[.val (.ref oa), .val (.ref ob), .val (.int (2 : Int32)), .val (.ref mA), .val (.int (4 : Int32)), .val (.int (4 : Int32)), .val (.ref m3), .val (.int (2 : Int32))]) Xj hx (hb hby d10_136) rfl (by decide) rfl ?_
            refine E.goto (q := 81) Xj hx (hb hby d10_139) ?_
            have hst : own_st C7 (2 : Int32) = (2 : Int32) := by rw [hC7]; simp [own_st, own_bi, own_bd, hc563, hc564, hc565, hc566]
            exact JM4_2 Tj (.val (.ref m3)) (.val (.int (2 : Int32))) Xj ej (Or.inr ⟨_, rfl, rfl⟩) (Or.inr ⟨_, rfl, rfl⟩) (hR.trans (congrArg (own_fold []) hst))
  have JM2_0 : ∀ (Tj : State) (s6 s7 : Slot), Stand p l e ({ frames := 0, cells := 0, slots := 0, locals := 0 } : Room) s m #[(.ref oa), (.ref ob)] below meth c Tj [] 0 0 → Tj.heap = h0 → (s6 = .unset ∨ ∃ w, s6 = .val w ∧ w.category = 1) → (s7 = .unset ∨ ∃ w, s7 = .val w ∧ w.category = 1) → own_fold [C0, C1, C2, C3, C4, C5, C6, C7] nz = own_fold [C6, C7] (0 : Int32) → Ends p e below s (fun v h L => v = some (.int (own_fold [C0, C1, C2, C3, C4, C5, C6, C7] nz)) ∧ h = h0 ∧ L = []) ({ frames := 0, cells := 0, slots := 0, locals := 0 } : Room).cells ({ frames := 0, cells := 0, slots := 0, locals := 0 } : Room).slots Tj (mkF m 81 #[.val (.ref oa), .val (.ref ob), .val (.int (0 : Int32)), .val (.ref mA), .val (.int (4 : Int32)), .val (.int (2 : Int32)), s6, s7] []) := by
    intro Tj s6 s7 Xj ej hs6 hs7 hR
    refine E.iload (q := 83) Xj hx (hb hby d10_81) rfl ?_
    refine E.iload (q := 85) Xj hx (hb hby d10_83) rfl ?_
    refine E.icmpN (q := 88) Xj hx (hb hby d10_85) (XT.ii_ge_f (by decide)) ?_
    refine E.aloadN (q := 89) Xj hx (hb hby d10_88) rfl rfl ?_
    refine E.iload (q := 91) Xj hx (hb hby d10_89) rfl ?_
    refine Ends.ald Xj hx hZ ej A_mA rfl (i := 2) rfl rfl (hb hby d10_91) ?_
    refine E.astore (q := 94) (l' := #[.val (.ref oa), .val (.ref ob), .val (.int (0 : Int32)), .val (.ref mA), .val (.int (4 : Int32)), .val (.int (2 : Int32)), .val (.ref m2), s7]) Xj hx (hb hby d10_92) rfl (XS.store1 rfl hs6 rfl) ?_
    refine E.iconst (q := 95) (v := (0 : Int32)) Xj hx (hb hby d10_94) rfl ?_
    refine E.istore (q := 97) (l' := #[.val (.ref oa), .val (.ref ob), .val (.int (0 : Int32)), .val (.ref mA), .val (.int (4 : Int32)), .val (.int (2 : Int32)), .val (.ref m2), .val (.int (0 : Int32))]) Xj hx (hb hby d10_95) (XS.store1 rfl hs7 rfl) ?_
    refine E.iload (q := 99) Xj hx (hb hby d10_97) rfl ?_
    refine E.iloadN (q := 100) Xj hx (hb hby d10_99) rfl ?_
    refine E.icmpY (q := 136) Xj hx (hb hby d10_100) (XT.ii_ge_t (by decide)) ?_
    refine E.iinc (q := 139) (v := (3 : Int32)) (l' := #[.val (.ref oa), .val (.ref ob), .val (.int (0 : Int32)), .val (.ref mA), .val (.int (4 : Int32)), .val (.int (3 : Int32)), .val (.ref m2), .val (.int (0 : Int32))]) Xj hx (hb hby d10_136) rfl (by decide) rfl ?_
    refine E.goto (q := 81) Xj hx (hb hby d10_139) ?_
    have hst : own_st C6 (0 : Int32) = (0 : Int32) := by rw [hC6]; simp [own_st, own_bi, own_bd]
    exact JM3_0 Tj (.val (.ref m2)) (.val (.int (0 : Int32))) Xj ej (Or.inr ⟨_, rfl, rfl⟩) (Or.inr ⟨_, rfl, rfl⟩) (hR.trans (congrArg (own_fold [C7]) hst))
  have JM2_1 : ∀ (Tj : State) (s6 s7 : Slot), Stand p l e ({ frames := 0, cells := 0, slots := 0, locals := 0 } : Room) s m #[(.ref oa), (.ref ob)] below meth c Tj [] 0 0 → Tj.heap = h0 → (s6 = .unset ∨ ∃ w, s6 = .val w ∧ w.category = 1) → (s7 = .unset ∨ ∃ w, s7 = .val w ∧ w.category = 1) → own_fold [C0, C1, C2, C3, C4, C5, C6, C7] nz = own_fold [C6, C7] (1 : Int32) → Ends p e below s (fun v h L => v = some (.int (own_fold [C0, C1, C2, C3, C4, C5, C6, C7] nz)) ∧ h = h0 ∧ L = []) ({ frames := 0, cells := 0, slots := 0, locals := 0 } : Room).cells ({ frames := 0, cells := 0, slots := 0, locals := 0 } : Room).slots Tj (mkF m 81 #[.val (.ref oa), .val (.ref ob), .val (.int (1 : Int32)), .val (.ref mA), .val (.int (4 : Int32)), .val (.int (2 : Int32)), s6, s7] []) := by
    intro Tj s6 s7 Xj ej hs6 hs7 hR
    refine E.iload (q := 83) Xj hx (hb hby d10_81) rfl ?_
    refine E.iload (q := 85) Xj hx (hb hby d10_83) rfl ?_
    refine E.icmpN (q := 88) Xj hx (hb hby d10_85) (XT.ii_ge_f (by decide)) ?_
    refine E.aloadN (q := 89) Xj hx (hb hby d10_88) rfl rfl ?_
    refine E.iload (q := 91) Xj hx (hb hby d10_89) rfl ?_
    refine Ends.ald Xj hx hZ ej A_mA rfl (i := 2) rfl rfl (hb hby d10_91) ?_
    refine E.astore (q := 94) (l' := #[.val (.ref oa), .val (.ref ob), .val (.int (1 : Int32)), .val (.ref mA), .val (.int (4 : Int32)), .val (.int (2 : Int32)), .val (.ref m2), s7]) Xj hx (hb hby d10_92) rfl (XS.store1 rfl hs6 rfl) ?_
    refine E.iconst (q := 95) (v := (0 : Int32)) Xj hx (hb hby d10_94) rfl ?_
    refine E.istore (q := 97) (l' := #[.val (.ref oa), .val (.ref ob), .val (.int (1 : Int32)), .val (.ref mA), .val (.int (4 : Int32)), .val (.int (2 : Int32)), .val (.ref m2), .val (.int (0 : Int32))]) Xj hx (hb hby d10_95) (XS.store1 rfl hs7 rfl) ?_
    refine E.iload (q := 99) Xj hx (hb hby d10_97) rfl ?_
    refine E.iloadN (q := 100) Xj hx (hb hby d10_99) rfl ?_
    refine E.icmpN (q := 103) Xj hx (hb hby d10_100) (XT.ii_ge_f (by decide)) ?_
    refine E.aload (q := 105) Xj hx (hb hby d10_103) rfl rfl ?_
    refine E.iload (q := 107) Xj hx (hb hby d10_105) rfl ?_
    refine Ends.dld Xj hx hZ ej A_m2 (i := 0) rfl rfl (hb hby d10_107) ?_
    refine E.ldc2D (q := 111) Xj hx hZ hown (hw _ (List.mem_of_getElem? (i := 75) rfl)) (hb hby d10_108) ?_
    refine E.dcmp (q := 112) Xj hx (hb hby d10_111) ?_
    by_cases hc567 : (cmpValue (FP.dcmp y20 (18442240474082181119 : UInt64)) .l) < (0 : Int32)
    · refine E.ifY (q := 127) Xj hx (hb hby d10_112) (XT.i0_lt_t hc567) ?_
      refine E.iload (q := 129) Xj hx (hb hby d10_127) rfl ?_
      refine E.istoreN (q := 130) (l' := #[.val (.ref oa), .val (.ref ob), .val (.int (0 : Int32)), .val (.ref mA), .val (.int (4 : Int32)), .val (.int (2 : Int32)), .val (.ref m2), .val (.int (0 : Int32))]) Xj hx (hb hby d10_129) rfl ?_
      refine E.iinc (q := 133) (v := (1 : Int32)) (l' := #[.val (.ref oa), .val (.ref ob), .val (.int (0 : Int32)), .val (.ref mA), .val (.int (4 : Int32)), .val (.int (2 : Int32)), .val (.ref m2), .val (.int (1 : Int32))]) Xj hx (hb hby d10_130) rfl (by decide) rfl ?_
      refine E.goto (q := 97) Xj hx (hb hby d10_133) ?_
      refine E.iload (q := 99) Xj hx (hb hby d10_97) rfl ?_
      refine E.iloadN (q := 100) Xj hx (hb hby d10_99) rfl ?_
      refine E.icmpY (q := 136) Xj hx (hb hby d10_100) (XT.ii_ge_t (by decide)) ?_
      refine E.iinc (q := 139) (v := (3 : Int32)) (l' := #[.val (.ref oa), .val (.ref ob), .val (.int (0 : Int32)), .val (.ref mA), .val (.int (4 : Int32)), .val (.int (3 : Int32)), .val (.ref m2), .val (.int (1 : Int32))]) Xj hx (hb hby d10_136) rfl (by decide) rfl ?_
      refine E.goto (q := 81) Xj hx (hb hby d10_139) ?_
      have hst : own_st C6 (1 : Int32) = (0 : Int32) := by rw [hC6]; simp [own_st, own_bi, own_bd, hc567]
      exact JM3_0 Tj (.val (.ref m2)) (.val (.int (1 : Int32))) Xj ej (Or.inr ⟨_, rfl, rfl⟩) (Or.inr ⟨_, rfl, rfl⟩) (hR.trans (congrArg (own_fold [C7]) hst))
    · refine E.ifN (q := 115) Xj hx (hb hby d10_112) (XT.i0_lt_f hc567) ?_
      refine E.aload (q := 117) Xj hx (hb hby d10_115) rfl rfl ?_
      refine E.iload (q := 119) Xj hx (hb hby d10_117) rfl ?_
      refine Ends.dld Xj hx hZ ej A_m2 (i := 0) rfl rfl (hb hby d10_119) ?_
      refine E.ldc2D (q := 123) Xj hx hZ hown (hw _ (List.mem_of_getElem? (i := 76) rfl)) (hb hby d10_120) ?_
      refine E.dcmp (q := 124) Xj hx (hb hby d10_123) ?_
      by_cases hc568 : (0 : Int32) < (cmpValue (FP.dcmp y20 (9218868437227405311 : UInt64)) .g)
      · refine E.ifN (q := 127) Xj hx (hb hby d10_124) (XT.i0_le_f hc568) ?_
        refine E.iload (q := 129) Xj hx (hb hby d10_127) rfl ?_
        refine E.istoreN (q := 130) (l' := #[.val (.ref oa), .val (.ref ob), .val (.int (0 : Int32)), .val (.ref mA), .val (.int (4 : Int32)), .val (.int (2 : Int32)), .val (.ref m2), .val (.int (0 : Int32))]) Xj hx (hb hby d10_129) rfl ?_
        refine E.iinc (q := 133) (v := (1 : Int32)) (l' := #[.val (.ref oa), .val (.ref ob), .val (.int (0 : Int32)), .val (.ref mA), .val (.int (4 : Int32)), .val (.int (2 : Int32)), .val (.ref m2), .val (.int (1 : Int32))]) Xj hx (hb hby d10_130) rfl (by decide) rfl ?_
        refine E.goto (q := 97) Xj hx (hb hby d10_133) ?_
        refine E.iload (q := 99) Xj hx (hb hby d10_97) rfl ?_
        refine E.iloadN (q := 100) Xj hx (hb hby d10_99) rfl ?_
        refine E.icmpY (q := 136) Xj hx (hb hby d10_100) (XT.ii_ge_t (by decide)) ?_
        refine E.iinc (q := 139) (v := (3 : Int32)) (l' := #[.val (.ref oa), .val (.ref ob), .val (.int (0 : Int32)), .val (.ref mA), .val (.int (4 : Int32)), .val (.int (3 : Int32)), .val (.ref m2), .val (.int (1 : Int32))]) Xj hx (hb hby d10_136) rfl (by decide) rfl ?_
        refine E.goto (q := 81) Xj hx (hb hby d10_139) ?_
        have hst : own_st C6 (1 : Int32) = (0 : Int32) := by rw [hC6]; simp [own_st, own_bi, own_bd, hc567, hc568]
        exact JM3_0 Tj (.val (.ref m2)) (.val (.int (1 : Int32))) Xj ej (Or.inr ⟨_, rfl, rfl⟩) (Or.inr ⟨_, rfl, rfl⟩) (hR.trans (congrArg (own_fold [C7]) hst))
      · refine E.ifY (q := 130) Xj hx (hb hby d10_124) (XT.i0_le_t hc568) ?_
        refine E.iinc (q := 133) (v := (1 : Int32)) (l' := #[.val (.ref oa), .val (.ref ob), .val (.int (1 : Int32)), .val (.ref mA), .val (.int (4 : Int32)), .val (.int (2 : Int32)), .val (.ref m2), .val (.int (1 : Int32))]) Xj hx (hb hby d10_130) rfl (by decide) rfl ?_
        refine E.goto (q := 97) Xj hx (hb hby d10_133) ?_
        refine E.iload (q := 99) Xj hx (hb hby d10_97) rfl ?_
        refine E.iloadN (q := 100) Xj hx (hb hby d10_99) rfl ?_
        refine E.icmpY (q := 136) Xj hx (hb hby d10_100) (XT.ii_ge_t (by decide)) ?_
        refine E.iinc (q := 139) (v := (3 : Int32)) (l' := #[.val (.ref oa), .val (.ref ob), .val (.int (1 : Int32)), .val (.ref mA), .val (.int (4 : Int32)), .val (.int (3 : Int32)), .val (.ref m2), .val (.int (1 : Int32))]) Xj hx (hb hby d10_136) rfl (by decide) rfl ?_
        refine E.goto (q := 81) Xj hx (hb hby d10_139) ?_
        have hst : own_st C6 (1 : Int32) = (1 : Int32) := by rw [hC6]; simp [own_st, own_bi, own_bd, hc567, hc568]
        exact JM3_1 Tj (.val (.ref m2)) (.val (.int (1 : Int32))) Xj ej (Or.inr ⟨_, rfl, rfl⟩) (Or.inr ⟨_, rfl, rfl⟩) (hR.trans (congrArg (own_fold [C7]) hst))
  have JM2_2 : ∀ (Tj : State) (s6 s7 : Slot), Stand p l e ({ frames := 0, cells := 0, slots := 0, locals := 0 } : Room) s m #[(.ref oa), (.ref ob)] below meth c Tj [] 0 0 → Tj.heap = h0 → (s6 = .unset ∨ ∃ w, s6 = .val w ∧ w.category = 1) → (s7 = .unset ∨ ∃ w, s7 = .val w ∧ w.category = 1) → own_fold [C0, C1, C2, C3, C4, C5, C6, C7] nz = own_fold [C6, C7] (2 : Int32) → Ends p e below s (fun v h L => v = some (.int (own_fold [C0, C1, C2, C3, C4, C5, C6, C7] nz)) ∧ h = h0 ∧ L = []) ({ frames := 0, cells := 0, slots := 0, locals := 0 } : Room).cells ({ frames := 0, cells := 0, slots := 0, locals := 0 } : Room).slots Tj (mkF m 81 #[.val (.ref oa), .val (.ref ob), .val (.int (2 : Int32)), .val (.ref mA), .val (.int (4 : Int32)), .val (.int (2 : Int32)), s6, s7] []) := by
    intro Tj s6 s7 Xj ej hs6 hs7 hR
    refine E.iload (q := 83) Xj hx (hb hby d10_81) rfl ?_
    refine E.iload (q := 85) Xj hx (hb hby d10_83) rfl ?_
    refine E.icmpN (q := 88) Xj hx (hb hby d10_85) (XT.ii_ge_f (by decide)) ?_
    refine E.aloadN (q := 89) Xj hx (hb hby d10_88) rfl rfl ?_
    refine E.iload (q := 91) Xj hx (hb hby d10_89) rfl ?_
    refine Ends.ald Xj hx hZ ej A_mA rfl (i := 2) rfl rfl (hb hby d10_91) ?_
    refine E.astore (q := 94) (l' := #[.val (.ref oa), .val (.ref ob), .val (.int (2 : Int32)), .val (.ref mA), .val (.int (4 : Int32)), .val (.int (2 : Int32)), .val (.ref m2), s7]) Xj hx (hb hby d10_92) rfl (XS.store1 rfl hs6 rfl) ?_
    refine E.iconst (q := 95) (v := (0 : Int32)) Xj hx (hb hby d10_94) rfl ?_
    refine E.istore (q := 97) (l' := #[.val (.ref oa), .val (.ref ob), .val (.int (2 : Int32)), .val (.ref mA), .val (.int (4 : Int32)), .val (.int (2 : Int32)), .val (.ref m2), .val (.int (0 : Int32))]) Xj hx (hb hby d10_95) (XS.store1 rfl hs7 rfl) ?_
    refine E.iload (q := 99) Xj hx (hb hby d10_97) rfl ?_
    refine E.iloadN (q := 100) Xj hx (hb hby d10_99) rfl ?_
    refine E.icmpN (q := 103) Xj hx (hb hby d10_100) (XT.ii_ge_f (by decide)) ?_
    refine E.aload (q := 105) Xj hx (hb hby d10_103) rfl rfl ?_
    refine E.iload (q := 107) Xj hx (hb hby d10_105) rfl ?_
    refine Ends.dld Xj hx hZ ej A_m2 (i := 0) rfl rfl (hb hby d10_107) ?_
    refine E.ldc2D (q := 111) Xj hx hZ hown (hw _ (List.mem_of_getElem? (i := 75) rfl)) (hb hby d10_108) ?_
    refine E.dcmp (q := 112) Xj hx (hb hby d10_111) ?_
    by_cases hc569 : (cmpValue (FP.dcmp y20 (18442240474082181119 : UInt64)) .l) < (0 : Int32)
    · refine E.ifY (q := 127) Xj hx (hb hby d10_112) (XT.i0_lt_t hc569) ?_
      refine E.iload (q := 129) Xj hx (hb hby d10_127) rfl ?_
      refine E.istoreN (q := 130) (l' := #[.val (.ref oa), .val (.ref ob), .val (.int (0 : Int32)), .val (.ref mA), .val (.int (4 : Int32)), .val (.int (2 : Int32)), .val (.ref m2), .val (.int (0 : Int32))]) Xj hx (hb hby d10_129) rfl ?_
      refine E.iinc (q := 133) (v := (1 : Int32)) (l' := #[.val (.ref oa), .val (.ref ob), .val (.int (0 : Int32)), .val (.ref mA), .val (.int (4 : Int32)), .val (.int (2 : Int32)), .val (.ref m2), .val (.int (1 : Int32))]) Xj hx (hb hby d10_130) rfl (by decide) rfl ?_
      refine E.goto (q := 97) Xj hx (hb hby d10_133) ?_
      refine E.iload (q := 99) Xj hx (hb hby d10_97) rfl ?_
      refine E.iloadN (q := 100) Xj hx (hb hby d10_99) rfl ?_
      refine E.icmpY (q := 136) Xj hx (hb hby d10_100) (XT.ii_ge_t (by decide)) ?_
      refine E.iinc (q := 139) (v := (3 : Int32)) (l' := #[.val (.ref oa), .val (.ref ob), .val (.int (0 : Int32)), .val (.ref mA), .val (.int (4 : Int32)), .val (.int (3 : Int32)), .val (.ref m2), .val (.int (1 : Int32))]) Xj hx (hb hby d10_136) rfl (by decide) rfl ?_
      refine E.goto (q := 81) Xj hx (hb hby d10_139) ?_
      have hst : own_st C6 (2 : Int32) = (0 : Int32) := by rw [hC6]; simp [own_st, own_bi, own_bd, hc569]
      exact JM3_0 Tj (.val (.ref m2)) (.val (.int (1 : Int32))) Xj ej (Or.inr ⟨_, rfl, rfl⟩) (Or.inr ⟨_, rfl, rfl⟩) (hR.trans (congrArg (own_fold [C7]) hst))
    · refine E.ifN (q := 115) Xj hx (hb hby d10_112) (XT.i0_lt_f hc569) ?_
      refine E.aload (q := 117) Xj hx (hb hby d10_115) rfl rfl ?_
      refine E.iload (q := 119) Xj hx (hb hby d10_117) rfl ?_
      refine Ends.dld Xj hx hZ ej A_m2 (i := 0) rfl rfl (hb hby d10_119) ?_
      refine E.ldc2D (q := 123) Xj hx hZ hown (hw _ (List.mem_of_getElem? (i := 76) rfl)) (hb hby d10_120) ?_
      refine E.dcmp (q := 124) Xj hx (hb hby d10_123) ?_
      by_cases hc570 : (0 : Int32) < (cmpValue (FP.dcmp y20 (9218868437227405311 : UInt64)) .g)
      · refine E.ifN (q := 127) Xj hx (hb hby d10_124) (XT.i0_le_f hc570) ?_
        refine E.iload (q := 129) Xj hx (hb hby d10_127) rfl ?_
        refine E.istoreN (q := 130) (l' := #[.val (.ref oa), .val (.ref ob), .val (.int (0 : Int32)), .val (.ref mA), .val (.int (4 : Int32)), .val (.int (2 : Int32)), .val (.ref m2), .val (.int (0 : Int32))]) Xj hx (hb hby d10_129) rfl ?_
        refine E.iinc (q := 133) (v := (1 : Int32)) (l' := #[.val (.ref oa), .val (.ref ob), .val (.int (0 : Int32)), .val (.ref mA), .val (.int (4 : Int32)), .val (.int (2 : Int32)), .val (.ref m2), .val (.int (1 : Int32))]) Xj hx (hb hby d10_130) rfl (by decide) rfl ?_
        refine E.goto (q := 97) Xj hx (hb hby d10_133) ?_
        refine E.iload (q := 99) Xj hx (hb hby d10_97) rfl ?_
        refine E.iloadN (q := 100) Xj hx (hb hby d10_99) rfl ?_
        refine E.icmpY (q := 136) Xj hx (hb hby d10_100) (XT.ii_ge_t (by decide)) ?_
        refine E.iinc (q := 139) (v := (3 : Int32)) (l' := #[.val (.ref oa), .val (.ref ob), .val (.int (0 : Int32)), .val (.ref mA), .val (.int (4 : Int32)), .val (.int (3 : Int32)), .val (.ref m2), .val (.int (1 : Int32))]) Xj hx (hb hby d10_136) rfl (by decide) rfl ?_
        refine E.goto (q := 81) Xj hx (hb hby d10_139) ?_
        have hst : own_st C6 (2 : Int32) = (0 : Int32) := by rw [hC6]; simp [own_st, own_bi, own_bd, hc569, hc570]
        exact JM3_0 Tj (.val (.ref m2)) (.val (.int (1 : Int32))) Xj ej (Or.inr ⟨_, rfl, rfl⟩) (Or.inr ⟨_, rfl, rfl⟩) (hR.trans (congrArg (own_fold [C7]) hst))
      · refine E.ifY (q := 130) Xj hx (hb hby d10_124) (XT.i0_le_t hc570) ?_
        refine E.iinc (q := 133) (v := (1 : Int32)) (l' := #[.val (.ref oa), .val (.ref ob), .val (.int (2 : Int32)), .val (.ref mA), .val (.int (4 : Int32)), .val (.int (2 : Int32)), .val (.ref m2), .val (.int (1 : Int32))]) Xj hx (hb hby d10_130) rfl (by decide) rfl ?_
        refine E.goto (q := 97) Xj hx (hb hby d10_133) ?_
        refine E.iload (q := 99) Xj hx (hb hby d10_97) rfl ?_
        refine E.iloadN (q := 100) Xj hx (hb hby d10_99) rfl ?_
        refine E.icmpN (q := 103) Xj hx (hb hby d10_100) (XT.ii_ge_f (by decide)) ?_
        refine E.aload (q := 105) Xj hx (hb hby d10_103) rfl rfl ?_
        refine E.iload (q := 107) Xj hx (hb hby d10_105) rfl ?_
        refine Ends.dld Xj hx hZ ej A_m2 (i := 1) rfl rfl (hb hby d10_107) ?_
        refine E.ldc2D (q := 111) Xj hx hZ hown (hw _ (List.mem_of_getElem? (i := 75) rfl)) (hb hby d10_108) ?_
        refine E.dcmp (q := 112) Xj hx (hb hby d10_111) ?_
        by_cases hc571 : (cmpValue (FP.dcmp y21 (18442240474082181119 : UInt64)) .l) < (0 : Int32)
        · refine E.ifY (q := 127) Xj hx (hb hby d10_112) (XT.i0_lt_t hc571) ?_
          refine E.iload (q := 129) Xj hx (hb hby d10_127) rfl ?_
          refine E.istoreN (q := 130) (l' := #[.val (.ref oa), .val (.ref ob), .val (.int (1 : Int32)), .val (.ref mA), .val (.int (4 : Int32)), .val (.int (2 : Int32)), .val (.ref m2), .val (.int (1 : Int32))]) Xj hx (hb hby d10_129) rfl ?_
          refine E.iinc (q := 133) (v := (2 : Int32)) (l' := #[.val (.ref oa), .val (.ref ob), .val (.int (1 : Int32)), .val (.ref mA), .val (.int (4 : Int32)), .val (.int (2 : Int32)), .val (.ref m2), .val (.int (2 : Int32))]) Xj hx (hb hby d10_130) rfl (by decide) rfl ?_
          refine E.goto (q := 97) Xj hx (hb hby d10_133) ?_
          refine E.iload (q := 99) Xj hx (hb hby d10_97) rfl ?_
          refine E.iloadN (q := 100) Xj hx (hb hby d10_99) rfl ?_
          refine E.icmpY (q := 136) Xj hx (hb hby d10_100) (XT.ii_ge_t (by decide)) ?_
          refine E.iinc (q := 139) (v := (3 : Int32)) (l' := #[.val (.ref oa), .val (.ref ob), .val (.int (1 : Int32)), .val (.ref mA), .val (.int (4 : Int32)), .val (.int (3 : Int32)), .val (.ref m2), .val (.int (2 : Int32))]) Xj hx (hb hby d10_136) rfl (by decide) rfl ?_
          refine E.goto (q := 81) Xj hx (hb hby d10_139) ?_
          have hst : own_st C6 (2 : Int32) = (1 : Int32) := by rw [hC6]; simp [own_st, own_bi, own_bd, hc569, hc570, hc571]
          exact JM3_1 Tj (.val (.ref m2)) (.val (.int (2 : Int32))) Xj ej (Or.inr ⟨_, rfl, rfl⟩) (Or.inr ⟨_, rfl, rfl⟩) (hR.trans (congrArg (own_fold [C7]) hst))
        · refine E.ifN (q := 115) Xj hx (hb hby d10_112) (XT.i0_lt_f hc571) ?_
          refine E.aload (q := 117) Xj hx (hb hby d10_115) rfl rfl ?_
          refine E.iload (q := 119) Xj hx (hb hby d10_117) rfl ?_
          refine Ends.dld Xj hx hZ ej A_m2 (i := 1) rfl rfl (hb hby d10_119) ?_
          refine E.ldc2D (q := 123) Xj hx hZ hown (hw _ (List.mem_of_getElem? (i := 76) rfl)) (hb hby d10_120) ?_
          refine E.dcmp (q := 124) Xj hx (hb hby d10_123) ?_
          by_cases hc572 : (0 : Int32) < (cmpValue (FP.dcmp y21 (9218868437227405311 : UInt64)) .g)
          · refine E.ifN (q := 127) Xj hx (hb hby d10_124) (XT.i0_le_f hc572) ?_
            refine E.iload (q := 129) Xj hx (hb hby d10_127) rfl ?_
            refine E.istoreN (q := 130) (l' := #[.val (.ref oa), .val (.ref ob), .val (.int (1 : Int32)), .val (.ref mA), .val (.int (4 : Int32)), .val (.int (2 : Int32)), .val (.ref m2), .val (.int (1 : Int32))]) Xj hx (hb hby d10_129) rfl ?_
            refine E.iinc (q := 133) (v := (2 : Int32)) (l' := #[.val (.ref oa), .val (.ref ob), .val (.int (1 : Int32)), .val (.ref mA), .val (.int (4 : Int32)), .val (.int (2 : Int32)), .val (.ref m2), .val (.int (2 : Int32))]) Xj hx (hb hby d10_130) rfl (by decide) rfl ?_
            refine E.goto (q := 97) Xj hx (hb hby d10_133) ?_
            refine E.iload (q := 99) Xj hx (hb hby d10_97) rfl ?_
            refine E.iloadN (q := 100) Xj hx (hb hby d10_99) rfl ?_
            refine E.icmpY (q := 136) Xj hx (hb hby d10_100) (XT.ii_ge_t (by decide)) ?_
            refine E.iinc (q := 139) (v := (3 : Int32)) (l' := #[.val (.ref oa), .val (.ref ob), .val (.int (1 : Int32)), .val (.ref mA), .val (.int (4 : Int32)), .val (.int (3 : Int32)), .val (.ref m2), .val (.int (2 : Int32))]) Xj hx (hb hby d10_136) rfl (by decide) rfl ?_
            refine E.goto (q := 81) Xj hx (hb hby d10_139) ?_
            have hst : own_st C6 (2 : Int32) = (1 : Int32) := by rw [hC6]; simp [own_st, own_bi, own_bd, hc569, hc570, hc571, hc572]
            exact JM3_1 Tj (.val (.ref m2)) (.val (.int (2 : Int32))) Xj ej (Or.inr ⟨_, rfl, rfl⟩) (Or.inr ⟨_, rfl, rfl⟩) (hR.trans (congrArg (own_fold [C7]) hst))
          · refine E.ifY (q := 130) Xj hx (hb hby d10_124) (XT.i0_le_t hc572) ?_
            refine E.iinc (q := 133) (v := (2 : Int32)) (l' := #[.val (.ref oa), .val (.ref ob), .val (.int (2 : Int32)), .val (.ref mA), .val (.int (4 : Int32)), .val (.int (2 : Int32)), .val (.ref m2), .val (.int (2 : Int32))]) Xj hx (hb hby d10_130) rfl (by decide) rfl ?_
            refine E.goto (q := 97) Xj hx (hb hby d10_133) ?_
            refine E.iload (q := 99) Xj hx (hb hby d10_97) rfl ?_
            refine E.iloadN (q := 100) Xj hx (hb hby d10_99) rfl ?_
            refine E.icmpY (q := 136) Xj hx (hb hby d10_100) (XT.ii_ge_t (by decide)) ?_
            refine E.iinc (q := 139) (v := (3 : Int32)) (l' := #[.val (.ref oa), .val (.ref ob), .val (.int (2 : Int32)), .val (.ref mA), .val (.int (4 : Int32)), .val (.int (3 : Int32)), .val (.ref m2), .val (.int (2 : Int32))]) Xj hx (hb hby d10_136) rfl (by decide) rfl ?_
            refine E.goto (q := 81) Xj hx (hb hby d10_139) ?_
            have hst : own_st C6 (2 : Int32) = (2 : Int32) := by rw [hC6]; simp [own_st, own_bi, own_bd, hc569, hc570, hc571, hc572]
            exact JM3_2 Tj (.val (.ref m2)) (.val (.int (2 : Int32))) Xj ej (Or.inr ⟨_, rfl, rfl⟩) (Or.inr ⟨_, rfl, rfl⟩) (hR.trans (congrArg (own_fold [C7]) hst))
  have JM1_0 : ∀ (Tj : State) (s6 s7 : Slot), Stand p l e ({ frames := 0, cells := 0, slots := 0, locals := 0 } : Room) s m #[(.ref oa), (.ref ob)] below meth c Tj [] 0 0 → Tj.heap = h0 → (s6 = .unset ∨ ∃ w, s6 = .val w ∧ w.category = 1) → (s7 = .unset ∨ ∃ w, s7 = .val w ∧ w.category = 1) → own_fold [C0, C1, C2, C3, C4, C5, C6, C7] nz = own_fold [C5, C6, C7] (0 : Int32) → Ends p e below s (fun v h L => v = some (.int (own_fold [C0, C1, C2, C3, C4, C5, C6, C7] nz)) ∧ h = h0 ∧ L = []) ({ frames := 0, cells := 0, slots := 0, locals := 0 } : Room).cells ({ frames := 0, cells := 0, slots := 0, locals := 0 } : Room).slots Tj (mkF m 81 #[.val (.ref oa), .val (.ref ob), .val (.int (0 : Int32)), .val (.ref mA), .val (.int (4 : Int32)), .val (.int (1 : Int32)), s6, s7] []) := by
    intro Tj s6 s7 Xj ej hs6 hs7 hR
    refine E.iload (q := 83) Xj hx (hb hby d10_81) rfl ?_
    refine E.iload (q := 85) Xj hx (hb hby d10_83) rfl ?_
    refine E.icmpN (q := 88) Xj hx (hb hby d10_85) (XT.ii_ge_f (by decide)) ?_
    refine E.aloadN (q := 89) Xj hx (hb hby d10_88) rfl rfl ?_
    refine E.iload (q := 91) Xj hx (hb hby d10_89) rfl ?_
    refine Ends.ald Xj hx hZ ej A_mA rfl (i := 1) rfl rfl (hb hby d10_91) ?_
    refine E.astore (q := 94) (l' := #[.val (.ref oa), .val (.ref ob), .val (.int (0 : Int32)), .val (.ref mA), .val (.int (4 : Int32)), .val (.int (1 : Int32)), .val (.ref m1), s7]) Xj hx (hb hby d10_92) rfl (XS.store1 rfl hs6 rfl) ?_
    refine E.iconst (q := 95) (v := (0 : Int32)) Xj hx (hb hby d10_94) rfl ?_
    refine E.istore (q := 97) (l' := #[.val (.ref oa), .val (.ref ob), .val (.int (0 : Int32)), .val (.ref mA), .val (.int (4 : Int32)), .val (.int (1 : Int32)), .val (.ref m1), .val (.int (0 : Int32))]) Xj hx (hb hby d10_95) (XS.store1 rfl hs7 rfl) ?_
    refine E.iload (q := 99) Xj hx (hb hby d10_97) rfl ?_
    refine E.iloadN (q := 100) Xj hx (hb hby d10_99) rfl ?_
    refine E.icmpY (q := 136) Xj hx (hb hby d10_100) (XT.ii_ge_t (by decide)) ?_
    refine E.iinc (q := 139) (v := (2 : Int32)) (l' := #[.val (.ref oa), .val (.ref ob), .val (.int (0 : Int32)), .val (.ref mA), .val (.int (4 : Int32)), .val (.int (2 : Int32)), .val (.ref m1), .val (.int (0 : Int32))]) Xj hx (hb hby d10_136) rfl (by decide) rfl ?_
    refine E.goto (q := 81) Xj hx (hb hby d10_139) ?_
    have hst : own_st C5 (0 : Int32) = (0 : Int32) := by rw [hC5]; simp [own_st, own_bi, own_bd]
    exact JM2_0 Tj (.val (.ref m1)) (.val (.int (0 : Int32))) Xj ej (Or.inr ⟨_, rfl, rfl⟩) (Or.inr ⟨_, rfl, rfl⟩) (hR.trans (congrArg (own_fold [C6, C7]) hst))
  have JM1_1 : ∀ (Tj : State) (s6 s7 : Slot), Stand p l e ({ frames := 0, cells := 0, slots := 0, locals := 0 } : Room) s m #[(.ref oa), (.ref ob)] below meth c Tj [] 0 0 → Tj.heap = h0 → (s6 = .unset ∨ ∃ w, s6 = .val w ∧ w.category = 1) → (s7 = .unset ∨ ∃ w, s7 = .val w ∧ w.category = 1) → own_fold [C0, C1, C2, C3, C4, C5, C6, C7] nz = own_fold [C5, C6, C7] (1 : Int32) → Ends p e below s (fun v h L => v = some (.int (own_fold [C0, C1, C2, C3, C4, C5, C6, C7] nz)) ∧ h = h0 ∧ L = []) ({ frames := 0, cells := 0, slots := 0, locals := 0 } : Room).cells ({ frames := 0, cells := 0, slots := 0, locals := 0 } : Room).slots Tj (mkF m 81 #[.val (.ref oa), .val (.ref ob), .val (.int (1 : Int32)), .val (.ref mA), .val (.int (4 : Int32)), .val (.int (1 : Int32)), s6, s7] []) := by
    intro Tj s6 s7 Xj ej hs6 hs7 hR
    refine E.iload (q := 83) Xj hx (hb hby d10_81) rfl ?_
    refine E.iload (q := 85) Xj hx (hb hby d10_83) rfl ?_
    refine E.icmpN (q := 88) Xj hx (hb hby d10_85) (XT.ii_ge_f (by decide)) ?_
    refine E.aloadN (q := 89) Xj hx (hb hby d10_88) rfl rfl ?_
    refine E.iload (q := 91) Xj hx (hb hby d10_89) rfl ?_
    refine Ends.ald Xj hx hZ ej A_mA rfl (i := 1) rfl rfl (hb hby d10_91) ?_
    refine E.astore (q := 94) (l' := #[.val (.ref oa), .val (.ref ob), .val (.int (1 : Int32)), .val (.ref mA), .val (.int (4 : Int32)), .val (.int (1 : Int32)), .val (.ref m1), s7]) Xj hx (hb hby d10_92) rfl (XS.store1 rfl hs6 rfl) ?_
    refine E.iconst (q := 95) (v := (0 : Int32)) Xj hx (hb hby d10_94) rfl ?_
    refine E.istore (q := 97) (l' := #[.val (.ref oa), .val (.ref ob), .val (.int (1 : Int32)), .val (.ref mA), .val (.int (4 : Int32)), .val (.int (1 : Int32)), .val (.ref m1), .val (.int (0 : Int32))]) Xj hx (hb hby d10_95) (XS.store1 rfl hs7 rfl) ?_
    refine E.iload (q := 99) Xj hx (hb hby d10_97) rfl ?_
    refine E.iloadN (q := 100) Xj hx (hb hby d10_99) rfl ?_
    refine E.icmpN (q := 103) Xj hx (hb hby d10_100) (XT.ii_ge_f (by decide)) ?_
    refine E.aload (q := 105) Xj hx (hb hby d10_103) rfl rfl ?_
    refine E.iload (q := 107) Xj hx (hb hby d10_105) rfl ?_
    refine Ends.dld Xj hx hZ ej A_m1 (i := 0) rfl rfl (hb hby d10_107) ?_
    refine E.ldc2D (q := 111) Xj hx hZ hown (hw _ (List.mem_of_getElem? (i := 75) rfl)) (hb hby d10_108) ?_
    refine E.dcmp (q := 112) Xj hx (hb hby d10_111) ?_
    by_cases hc573 : (cmpValue (FP.dcmp y10 (18442240474082181119 : UInt64)) .l) < (0 : Int32)
    · refine E.ifY (q := 127) Xj hx (hb hby d10_112) (XT.i0_lt_t hc573) ?_
      refine E.iload (q := 129) Xj hx (hb hby d10_127) rfl ?_
      refine E.istoreN (q := 130) (l' := #[.val (.ref oa), .val (.ref ob), .val (.int (0 : Int32)), .val (.ref mA), .val (.int (4 : Int32)), .val (.int (1 : Int32)), .val (.ref m1), .val (.int (0 : Int32))]) Xj hx (hb hby d10_129) rfl ?_
      refine E.iinc (q := 133) (v := (1 : Int32)) (l' := #[.val (.ref oa), .val (.ref ob), .val (.int (0 : Int32)), .val (.ref mA), .val (.int (4 : Int32)), .val (.int (1 : Int32)), .val (.ref m1), .val (.int (1 : Int32))]) Xj hx (hb hby d10_130) rfl (by decide) rfl ?_
      refine E.goto (q := 97) Xj hx (hb hby d10_133) ?_
      refine E.iload (q := 99) Xj hx (hb hby d10_97) rfl ?_
      refine E.iloadN (q := 100) Xj hx (hb hby d10_99) rfl ?_
      refine E.icmpY (q := 136) Xj hx (hb hby d10_100) (XT.ii_ge_t (by decide)) ?_
      refine E.iinc (q := 139) (v := (2 : Int32)) (l' := #[.val (.ref oa), .val (.ref ob), .val (.int (0 : Int32)), .val (.ref mA), .val (.int (4 : Int32)), .val (.int (2 : Int32)), .val (.ref m1), .val (.int (1 : Int32))]) Xj hx (hb hby d10_136) rfl (by decide) rfl ?_
      refine E.goto (q := 81) Xj hx (hb hby d10_139) ?_
      have hst : own_st C5 (1 : Int32) = (0 : Int32) := by rw [hC5]; simp [own_st, own_bi, own_bd, hc573]
      exact JM2_0 Tj (.val (.ref m1)) (.val (.int (1 : Int32))) Xj ej (Or.inr ⟨_, rfl, rfl⟩) (Or.inr ⟨_, rfl, rfl⟩) (hR.trans (congrArg (own_fold [C6, C7]) hst))
    · refine E.ifN (q := 115) Xj hx (hb hby d10_112) (XT.i0_lt_f hc573) ?_
      refine E.aload (q := 117) Xj hx (hb hby d10_115) rfl rfl ?_
      refine E.iload (q := 119) Xj hx (hb hby d10_117) rfl ?_
      refine Ends.dld Xj hx hZ ej A_m1 (i := 0) rfl rfl (hb hby d10_119) ?_
      refine E.ldc2D (q := 123) Xj hx hZ hown (hw _ (List.mem_of_getElem? (i := 76) rfl)) (hb hby d10_120) ?_
      refine E.dcmp (q := 124) Xj hx (hb hby d10_123) ?_
      by_cases hc574 : (0 : Int32) < (cmpValue (FP.dcmp y10 (9218868437227405311 : UInt64)) .g)
      · refine E.ifN (q := 127) Xj hx (hb hby d10_124) (XT.i0_le_f hc574) ?_
        refine E.iload (q := 129) Xj hx (hb hby d10_127) rfl ?_
        refine E.istoreN (q := 130) (l' := #[.val (.ref oa), .val (.ref ob), .val (.int (0 : Int32)), .val (.ref mA), .val (.int (4 : Int32)), .val (.int (1 : Int32)), .val (.ref m1), .val (.int (0 : Int32))]) Xj hx (hb hby d10_129) rfl ?_
        refine E.iinc (q := 133) (v := (1 : Int32)) (l' := #[.val (.ref oa), .val (.ref ob), .val (.int (0 : Int32)), .val (.ref mA), .val (.int (4 : Int32)), .val (.int (1 : Int32)), .val (.ref m1), .val (.int (1 : Int32))]) Xj hx (hb hby d10_130) rfl (by decide) rfl ?_
        refine E.goto (q := 97) Xj hx (hb hby d10_133) ?_
        refine E.iload (q := 99) Xj hx (hb hby d10_97) rfl ?_
        refine E.iloadN (q := 100) Xj hx (hb hby d10_99) rfl ?_
        refine E.icmpY (q := 136) Xj hx (hb hby d10_100) (XT.ii_ge_t (by decide)) ?_
        refine E.iinc (q := 139) (v := (2 : Int32)) (l' := #[.val (.ref oa), .val (.ref ob), .val (.int (0 : Int32)), .val (.ref mA), .val (.int (4 : Int32)), .val (.int (2 : Int32)), .val (.ref m1), .val (.int (1 : Int32))]) Xj hx (hb hby d10_136) rfl (by decide) rfl ?_
        refine E.goto (q := 81) Xj hx (hb hby d10_139) ?_
        have hst : own_st C5 (1 : Int32) = (0 : Int32) := by rw [hC5]; simp [own_st, own_bi, own_bd, hc573, hc574]
        exact JM2_0 Tj (.val (.ref m1)) (.val (.int (1 : Int32))) Xj ej (Or.inr ⟨_, rfl, rfl⟩) (Or.inr ⟨_, rfl, rfl⟩) (hR.trans (congrArg (own_fold [C6, C7]) hst))
      · refine E.ifY (q := 130) Xj hx (hb hby d10_124) (XT.i0_le_t hc574) ?_
        refine E.iinc (q := 133) (v := (1 : Int32)) (l' := #[.val (.ref oa), .val (.ref ob), .val (.int (1 : Int32)), .val (.ref mA), .val (.int (4 : Int32)), .val (.int (1 : Int32)), .val (.ref m1), .val (.int (1 : Int32))]) Xj hx (hb hby d10_130) rfl (by decide) rfl ?_
        refine E.goto (q := 97) Xj hx (hb hby d10_133) ?_
        refine E.iload (q := 99) Xj hx (hb hby d10_97) rfl ?_
        refine E.iloadN (q := 100) Xj hx (hb hby d10_99) rfl ?_
        refine E.icmpY (q := 136) Xj hx (hb hby d10_100) (XT.ii_ge_t (by decide)) ?_
        refine E.iinc (q := 139) (v := (2 : Int32)) (l' := #[.val (.ref oa), .val (.ref ob), .val (.int (1 : Int32)), .val (.ref mA), .val (.int (4 : Int32)), .val (.int (2 : Int32)), .val (.ref m1), .val (.int (1 : Int32))]) Xj hx (hb hby d10_136) rfl (by decide) rfl ?_
        refine E.goto (q := 81) Xj hx (hb hby d10_139) ?_
        have hst : own_st C5 (1 : Int32) = (1 : Int32) := by rw [hC5]; simp [own_st, own_bi, own_bd, hc573, hc574]
        exact JM2_1 Tj (.val (.ref m1)) (.val (.int (1 : Int32))) Xj ej (Or.inr ⟨_, rfl, rfl⟩) (Or.inr ⟨_, rfl, rfl⟩) (hR.trans (congrArg (own_fold [C6, C7]) hst))
  have JM1_2 : ∀ (Tj : State) (s6 s7 : Slot), Stand p l e ({ frames := 0, cells := 0, slots := 0, locals := 0 } : Room) s m #[(.ref oa), (.ref ob)] below meth c Tj [] 0 0 → Tj.heap = h0 → (s6 = .unset ∨ ∃ w, s6 = .val w ∧ w.category = 1) → (s7 = .unset ∨ ∃ w, s7 = .val w ∧ w.category = 1) → own_fold [C0, C1, C2, C3, C4, C5, C6, C7] nz = own_fold [C5, C6, C7] (2 : Int32) → Ends p e below s (fun v h L => v = some (.int (own_fold [C0, C1, C2, C3, C4, C5, C6, C7] nz)) ∧ h = h0 ∧ L = []) ({ frames := 0, cells := 0, slots := 0, locals := 0 } : Room).cells ({ frames := 0, cells := 0, slots := 0, locals := 0 } : Room).slots Tj (mkF m 81 #[.val (.ref oa), .val (.ref ob), .val (.int (2 : Int32)), .val (.ref mA), .val (.int (4 : Int32)), .val (.int (1 : Int32)), s6, s7] []) := by
    intro Tj s6 s7 Xj ej hs6 hs7 hR
    refine E.iload (q := 83) Xj hx (hb hby d10_81) rfl ?_
    refine E.iload (q := 85) Xj hx (hb hby d10_83) rfl ?_
    refine E.icmpN (q := 88) Xj hx (hb hby d10_85) (XT.ii_ge_f (by decide)) ?_
    refine E.aloadN (q := 89) Xj hx (hb hby d10_88) rfl rfl ?_
    refine E.iload (q := 91) Xj hx (hb hby d10_89) rfl ?_
    refine Ends.ald Xj hx hZ ej A_mA rfl (i := 1) rfl rfl (hb hby d10_91) ?_
    refine E.astore (q := 94) (l' := #[.val (.ref oa), .val (.ref ob), .val (.int (2 : Int32)), .val (.ref mA), .val (.int (4 : Int32)), .val (.int (1 : Int32)), .val (.ref m1), s7]) Xj hx (hb hby d10_92) rfl (XS.store1 rfl hs6 rfl) ?_
    refine E.iconst (q := 95) (v := (0 : Int32)) Xj hx (hb hby d10_94) rfl ?_
    refine E.istore (q := 97) (l' := #[.val (.ref oa), .val (.ref ob), .val (.int (2 : Int32)), .val (.ref mA), .val (.int (4 : Int32)), .val (.int (1 : Int32)), .val (.ref m1), .val (.int (0 : Int32))]) Xj hx (hb hby d10_95) (XS.store1 rfl hs7 rfl) ?_
    refine E.iload (q := 99) Xj hx (hb hby d10_97) rfl ?_
    refine E.iloadN (q := 100) Xj hx (hb hby d10_99) rfl ?_
    refine E.icmpN (q := 103) Xj hx (hb hby d10_100) (XT.ii_ge_f (by decide)) ?_
    refine E.aload (q := 105) Xj hx (hb hby d10_103) rfl rfl ?_
    refine E.iload (q := 107) Xj hx (hb hby d10_105) rfl ?_
    refine Ends.dld Xj hx hZ ej A_m1 (i := 0) rfl rfl (hb hby d10_107) ?_
    refine E.ldc2D (q := 111) Xj hx hZ hown (hw _ (List.mem_of_getElem? (i := 75) rfl)) (hb hby d10_108) ?_
    refine E.dcmp (q := 112) Xj hx (hb hby d10_111) ?_
    by_cases hc575 : (cmpValue (FP.dcmp y10 (18442240474082181119 : UInt64)) .l) < (0 : Int32)
    · refine E.ifY (q := 127) Xj hx (hb hby d10_112) (XT.i0_lt_t hc575) ?_
      refine E.iload (q := 129) Xj hx (hb hby d10_127) rfl ?_
      refine E.istoreN (q := 130) (l' := #[.val (.ref oa), .val (.ref ob), .val (.int (0 : Int32)), .val (.ref mA), .val (.int (4 : Int32)), .val (.int (1 : Int32)), .val (.ref m1), .val (.int (0 : Int32))]) Xj hx (hb hby d10_129) rfl ?_
      refine E.iinc (q := 133) (v := (1 : Int32)) (l' := #[.val (.ref oa), .val (.ref ob), .val (.int (0 : Int32)), .val (.ref mA), .val (.int (4 : Int32)), .val (.int (1 : Int32)), .val (.ref m1), .val (.int (1 : Int32))]) Xj hx (hb hby d10_130) rfl (by decide) rfl ?_
      refine E.goto (q := 97) Xj hx (hb hby d10_133) ?_
      refine E.iload (q := 99) Xj hx (hb hby d10_97) rfl ?_
      refine E.iloadN (q := 100) Xj hx (hb hby d10_99) rfl ?_
      refine E.icmpY (q := 136) Xj hx (hb hby d10_100) (XT.ii_ge_t (by decide)) ?_
      refine E.iinc (q := 139) (v := (2 : Int32)) (l' := #[.val (.ref oa), .val (.ref ob), .val (.int (0 : Int32)), .val (.ref mA), .val (.int (4 : Int32)), .val (.int (2 : Int32)), .val (.ref m1), .val (.int (1 : Int32))]) Xj hx (hb hby d10_136) rfl (by decide) rfl ?_
      refine E.goto (q := 81) Xj hx (hb hby d10_139) ?_
      have hst : own_st C5 (2 : Int32) = (0 : Int32) := by rw [hC5]; simp [own_st, own_bi, own_bd, hc575]
      exact JM2_0 Tj (.val (.ref m1)) (.val (.int (1 : Int32))) Xj ej (Or.inr ⟨_, rfl, rfl⟩) (Or.inr ⟨_, rfl, rfl⟩) (hR.trans (congrArg (own_fold [C6, C7]) hst))
    · refine E.ifN (q := 115) Xj hx (hb hby d10_112) (XT.i0_lt_f hc575) ?_
      refine E.aload (q := 117) Xj hx (hb hby d10_115) rfl rfl ?_
      refine E.iload (q := 119) Xj hx (hb hby d10_117) rfl ?_
      refine Ends.dld Xj hx hZ ej A_m1 (i := 0) rfl rfl (hb hby d10_119) ?_
      refine E.ldc2D (q := 123) Xj hx hZ hown (hw _ (List.mem_of_getElem? (i := 76) rfl)) (hb hby d10_120) ?_
      refine E.dcmp (q := 124) Xj hx (hb hby d10_123) ?_
      by_cases hc576 : (0 : Int32) < (cmpValue (FP.dcmp y10 (9218868437227405311 : UInt64)) .g)
      · refine E.ifN (q := 127) Xj hx (hb hby d10_124) (XT.i0_le_f hc576) ?_
        refine E.iload (q := 129) Xj hx (hb hby d10_127) rfl ?_
        refine E.istoreN (q := 130) (l' := #[.val (.ref oa), .val (.ref ob), .val (.int (0 : Int32)), .val (.ref mA), .val (.int (4 : Int32)), .val (.int (1 : Int32)), .val (.ref m1), .val (.int (0 : Int32))]) Xj hx (hb hby d10_129) rfl ?_
        refine E.iinc (q := 133) (v := (1 : Int32)) (l' := #[.val (.ref oa), .val (.ref ob), .val (.int (0 : Int32)), .val (.ref mA), .val (.int (4 : Int32)), .val (.int (1 : Int32)), .val (.ref m1), .val (.int (1 : Int32))]) Xj hx (hb hby d10_130) rfl (by decide) rfl ?_
        refine E.goto (q := 97) Xj hx (hb hby d10_133) ?_
        refine E.iload (q := 99) Xj hx (hb hby d10_97) rfl ?_
        refine E.iloadN (q := 100) Xj hx (hb hby d10_99) rfl ?_
        refine E.icmpY (q := 136) Xj hx (hb hby d10_100) (XT.ii_ge_t (by decide)) ?_
        refine E.iinc (q := 139) (v := (2 : Int32)) (l' := #[.val (.ref oa), .val (.ref ob), .val (.int (0 : Int32)), .val (.ref mA), .val (.int (4 : Int32)), .val (.int (2 : Int32)), .val (.ref m1), .val (.int (1 : Int32))]) Xj hx (hb hby d10_136) rfl (by decide) rfl ?_
        refine E.goto (q := 81) Xj hx (hb hby d10_139) ?_
        have hst : own_st C5 (2 : Int32) = (0 : Int32) := by rw [hC5]; simp [own_st, own_bi, own_bd, hc575, hc576]
        exact JM2_0 Tj (.val (.ref m1)) (.val (.int (1 : Int32))) Xj ej (Or.inr ⟨_, rfl, rfl⟩) (Or.inr ⟨_, rfl, rfl⟩) (hR.trans (congrArg (own_fold [C6, C7]) hst))
      · refine E.ifY (q := 130) Xj hx (hb hby d10_124) (XT.i0_le_t hc576) ?_
        refine E.iinc (q := 133) (v := (1 : Int32)) (l' := #[.val (.ref oa), .val (.ref ob), .val (.int (2 : Int32)), .val (.ref mA), .val (.int (4 : Int32)), .val (.int (1 : Int32)), .val (.ref m1), .val (.int (1 : Int32))]) Xj hx (hb hby d10_130) rfl (by decide) rfl ?_
        refine E.goto (q := 97) Xj hx (hb hby d10_133) ?_
        refine E.iload (q := 99) Xj hx (hb hby d10_97) rfl ?_
        refine E.iloadN (q := 100) Xj hx (hb hby d10_99) rfl ?_
        refine E.icmpN (q := 103) Xj hx (hb hby d10_100) (XT.ii_ge_f (by decide)) ?_
        refine E.aload (q := 105) Xj hx (hb hby d10_103) rfl rfl ?_
        refine E.iload (q := 107) Xj hx (hb hby d10_105) rfl ?_
        refine Ends.dld Xj hx hZ ej A_m1 (i := 1) rfl rfl (hb hby d10_107) ?_
        refine E.ldc2D (q := 111) Xj hx hZ hown (hw _ (List.mem_of_getElem? (i := 75) rfl)) (hb hby d10_108) ?_
        refine E.dcmp (q := 112) Xj hx (hb hby d10_111) ?_
        by_cases hc577 : (cmpValue (FP.dcmp y11 (18442240474082181119 : UInt64)) .l) < (0 : Int32)
        · refine E.ifY (q := 127) Xj hx (hb hby d10_112) (XT.i0_lt_t hc577) ?_
          refine E.iload (q := 129) Xj hx (hb hby d10_127) rfl ?_
          refine E.istoreN (q := 130) (l' := #[.val (.ref oa), .val (.ref ob), .val (.int (1 : Int32)), .val (.ref mA), .val (.int (4 : Int32)), .val (.int (1 : Int32)), .val (.ref m1), .val (.int (1 : Int32))]) Xj hx (hb hby d10_129) rfl ?_
          refine E.iinc (q := 133) (v := (2 : Int32)) (l' := #[.val (.ref oa), .val (.ref ob), .val (.int (1 : Int32)), .val (.ref mA), .val (.int (4 : Int32)), .val (.int (1 : Int32)), .val (.ref m1), .val (.int (2 : Int32))]) Xj hx (hb hby d10_130) rfl (by decide) rfl ?_
          refine E.goto (q := 97) Xj hx (hb hby d10_133) ?_
          refine E.iload (q := 99) Xj hx (hb hby d10_97) rfl ?_
          refine E.iloadN (q := 100) Xj hx (hb hby d10_99) rfl ?_
          refine E.icmpY (q := 136) Xj hx (hb hby d10_100) (XT.ii_ge_t (by decide)) ?_
          refine E.iinc (q := 139) (v := (2 : Int32)) (l' := #[.val (.ref oa), .val (.ref ob), .val (.int (1 : Int32)), .val (.ref mA), .val (.int (4 : Int32)), .val (.int (2 : Int32)), .val (.ref m1), .val (.int (2 : Int32))]) Xj hx (hb hby d10_136) rfl (by decide) rfl ?_
          refine E.goto (q := 81) Xj hx (hb hby d10_139) ?_
          have hst : own_st C5 (2 : Int32) = (1 : Int32) := by rw [hC5]; simp [own_st, own_bi, own_bd, hc575, hc576, hc577]
          exact JM2_1 Tj (.val (.ref m1)) (.val (.int (2 : Int32))) Xj ej (Or.inr ⟨_, rfl, rfl⟩) (Or.inr ⟨_, rfl, rfl⟩) (hR.trans (congrArg (own_fold [C6, C7]) hst))
        · refine E.ifN (q := 115) Xj hx (hb hby d10_112) (XT.i0_lt_f hc577) ?_
          refine E.aload (q := 117) Xj hx (hb hby d10_115) rfl rfl ?_
          refine E.iload (q := 119) Xj hx (hb hby d10_117) rfl ?_
          refine Ends.dld Xj hx hZ ej A_m1 (i := 1) rfl rfl (hb hby d10_119) ?_
          refine E.ldc2D (q := 123) Xj hx hZ hown (hw _ (List.mem_of_getElem? (i := 76) rfl)) (hb hby d10_120) ?_
          refine E.dcmp (q := 124) Xj hx (hb hby d10_123) ?_
          by_cases hc578 : (0 : Int32) < (cmpValue (FP.dcmp y11 (9218868437227405311 : UInt64)) .g)
          · refine E.ifN (q := 127) Xj hx (hb hby d10_124) (XT.i0_le_f hc578) ?_
            refine E.iload (q := 129) Xj hx (hb hby d10_127) rfl ?_
            refine E.istoreN (q := 130) (l' := #[.val (.ref oa), .val (.ref ob), .val (.int (1 : Int32)), .val (.ref mA), .val (.int (4 : Int32)), .val (.int (1 : Int32)), .val (.ref m1), .val (.int (1 : Int32))]) Xj hx (hb hby d10_129) rfl ?_
            refine E.iinc (q := 133) (v := (2 : Int32)) (l' := #[.val (.ref oa), .val (.ref ob), .val (.int (1 : Int32)), .val (.ref mA), .val (.int (4 : Int32)), .val (.int (1 : Int32)), .val (.ref m1), .val (.int (2 : Int32))]) Xj hx (hb hby d10_130) rfl (by decide) rfl ?_
            refine E.goto (q := 97) Xj hx (hb hby d10_133) ?_
            refine E.iload (q := 99) Xj hx (hb hby d10_97) rfl ?_
            refine E.iloadN (q := 100) Xj hx (hb hby d10_99) rfl ?_
            refine E.icmpY (q := 136) Xj hx (hb hby d10_100) (XT.ii_ge_t (by decide)) ?_
            refine E.iinc (q := 139) (v := (2 : Int32)) (l' := #[.val (.ref oa), .val (.ref ob), .val (.int (1 : Int32)), .val (.ref mA), .val (.int (4 : Int32)), .val (.int (2 : Int32)), .val (.ref m1), .val (.int (2 : Int32))]) Xj hx (hb hby d10_136) rfl (by decide) rfl ?_
            refine E.goto (q := 81) Xj hx (hb hby d10_139) ?_
            have hst : own_st C5 (2 : Int32) = (1 : Int32) := by rw [hC5]; simp [own_st, own_bi, own_bd, hc575, hc576, hc577, hc578]
            exact JM2_1 Tj (.val (.ref m1)) (.val (.int (2 : Int32))) Xj ej (Or.inr ⟨_, rfl, rfl⟩) (Or.inr ⟨_, rfl, rfl⟩) (hR.trans (congrArg (own_fold [C6, C7]) hst))
          · refine E.ifY (q := 130) Xj hx (hb hby d10_124) (XT.i0_le_t hc578) ?_
            refine E.iinc (q := 133) (v := (2 : Int32)) (l' := #[.val (.ref oa), .val (.ref ob), .val (.int (2 : Int32)), .val (.ref mA), .val (.int (4 : Int32)), .val (.int (1 : Int32)), .val (.ref m1), .val (.int (2 : Int32))]) Xj hx (hb hby d10_130) rfl (by decide) rfl ?_
            refine E.goto (q := 97) Xj hx (hb hby d10_133) ?_
            refine E.iload (q := 99) Xj hx (hb hby d10_97) rfl ?_
            refine E.iloadN (q := 100) Xj hx (hb hby d10_99) rfl ?_
            refine E.icmpY (q := 136) Xj hx (hb hby d10_100) (XT.ii_ge_t (by decide)) ?_
            refine E.iinc (q := 139) (v := (2 : Int32)) (l' := #[.val (.ref oa), .val (.ref ob), .val (.int (2 : Int32)), .val (.ref mA), .val (.int (4 : Int32)), .val (.int (2 : Int32)), .val (.ref m1), .val (.int (2 : Int32))]) Xj hx (hb hby d10_136) rfl (by decide) rfl ?_
            refine E.goto (q := 81) Xj hx (hb hby d10_139) ?_
            have hst : own_st C5 (2 : Int32) = (2 : Int32) := by rw [hC5]; simp [own_st, own_bi, own_bd, hc575, hc576, hc577, hc578]
            exact JM2_2 Tj (.val (.ref m1)) (.val (.int (2 : Int32))) Xj ej (Or.inr ⟨_, rfl, rfl⟩) (Or.inr ⟨_, rfl, rfl⟩) (hR.trans (congrArg (own_fold [C6, C7]) hst))
  have JM0_0 : ∀ (Tj : State) (s6 s7 : Slot), Stand p l e ({ frames := 0, cells := 0, slots := 0, locals := 0 } : Room) s m #[(.ref oa), (.ref ob)] below meth c Tj [] 0 0 → Tj.heap = h0 → (s6 = .unset ∨ ∃ w, s6 = .val w ∧ w.category = 1) → (s7 = .unset ∨ ∃ w, s7 = .val w ∧ w.category = 1) → own_fold [C0, C1, C2, C3, C4, C5, C6, C7] nz = own_fold [C4, C5, C6, C7] (0 : Int32) → Ends p e below s (fun v h L => v = some (.int (own_fold [C0, C1, C2, C3, C4, C5, C6, C7] nz)) ∧ h = h0 ∧ L = []) ({ frames := 0, cells := 0, slots := 0, locals := 0 } : Room).cells ({ frames := 0, cells := 0, slots := 0, locals := 0 } : Room).slots Tj (mkF m 81 #[.val (.ref oa), .val (.ref ob), .val (.int (0 : Int32)), .val (.ref mA), .val (.int (4 : Int32)), .val (.int (0 : Int32)), s6, s7] []) := by
    intro Tj s6 s7 Xj ej hs6 hs7 hR
    refine E.iload (q := 83) Xj hx (hb hby d10_81) rfl ?_
    refine E.iload (q := 85) Xj hx (hb hby d10_83) rfl ?_
    refine E.icmpN (q := 88) Xj hx (hb hby d10_85) (XT.ii_ge_f (by decide)) ?_
    refine E.aloadN (q := 89) Xj hx (hb hby d10_88) rfl rfl ?_
    refine E.iload (q := 91) Xj hx (hb hby d10_89) rfl ?_
    refine Ends.ald Xj hx hZ ej A_mA rfl (i := 0) rfl rfl (hb hby d10_91) ?_
    refine E.astore (q := 94) (l' := #[.val (.ref oa), .val (.ref ob), .val (.int (0 : Int32)), .val (.ref mA), .val (.int (4 : Int32)), .val (.int (0 : Int32)), .val (.ref m0), s7]) Xj hx (hb hby d10_92) rfl (XS.store1 rfl hs6 rfl) ?_
    refine E.iconst (q := 95) (v := (0 : Int32)) Xj hx (hb hby d10_94) rfl ?_
    refine E.istore (q := 97) (l' := #[.val (.ref oa), .val (.ref ob), .val (.int (0 : Int32)), .val (.ref mA), .val (.int (4 : Int32)), .val (.int (0 : Int32)), .val (.ref m0), .val (.int (0 : Int32))]) Xj hx (hb hby d10_95) (XS.store1 rfl hs7 rfl) ?_
    refine E.iload (q := 99) Xj hx (hb hby d10_97) rfl ?_
    refine E.iloadN (q := 100) Xj hx (hb hby d10_99) rfl ?_
    refine E.icmpY (q := 136) Xj hx (hb hby d10_100) (XT.ii_ge_t (by decide)) ?_
    refine E.iinc (q := 139) (v := (1 : Int32)) (l' := #[.val (.ref oa), .val (.ref ob), .val (.int (0 : Int32)), .val (.ref mA), .val (.int (4 : Int32)), .val (.int (1 : Int32)), .val (.ref m0), .val (.int (0 : Int32))]) Xj hx (hb hby d10_136) rfl (by decide) rfl ?_
    refine E.goto (q := 81) Xj hx (hb hby d10_139) ?_
    have hst : own_st C4 (0 : Int32) = (0 : Int32) := by rw [hC4]; simp [own_st, own_bi, own_bd]
    exact JM1_0 Tj (.val (.ref m0)) (.val (.int (0 : Int32))) Xj ej (Or.inr ⟨_, rfl, rfl⟩) (Or.inr ⟨_, rfl, rfl⟩) (hR.trans (congrArg (own_fold [C5, C6, C7]) hst))
  have JM0_1 : ∀ (Tj : State) (s6 s7 : Slot), Stand p l e ({ frames := 0, cells := 0, slots := 0, locals := 0 } : Room) s m #[(.ref oa), (.ref ob)] below meth c Tj [] 0 0 → Tj.heap = h0 → (s6 = .unset ∨ ∃ w, s6 = .val w ∧ w.category = 1) → (s7 = .unset ∨ ∃ w, s7 = .val w ∧ w.category = 1) → own_fold [C0, C1, C2, C3, C4, C5, C6, C7] nz = own_fold [C4, C5, C6, C7] (1 : Int32) → Ends p e below s (fun v h L => v = some (.int (own_fold [C0, C1, C2, C3, C4, C5, C6, C7] nz)) ∧ h = h0 ∧ L = []) ({ frames := 0, cells := 0, slots := 0, locals := 0 } : Room).cells ({ frames := 0, cells := 0, slots := 0, locals := 0 } : Room).slots Tj (mkF m 81 #[.val (.ref oa), .val (.ref ob), .val (.int (1 : Int32)), .val (.ref mA), .val (.int (4 : Int32)), .val (.int (0 : Int32)), s6, s7] []) := by
    intro Tj s6 s7 Xj ej hs6 hs7 hR
    refine E.iload (q := 83) Xj hx (hb hby d10_81) rfl ?_
    refine E.iload (q := 85) Xj hx (hb hby d10_83) rfl ?_
    refine E.icmpN (q := 88) Xj hx (hb hby d10_85) (XT.ii_ge_f (by decide)) ?_
    refine E.aloadN (q := 89) Xj hx (hb hby d10_88) rfl rfl ?_
    refine E.iload (q := 91) Xj hx (hb hby d10_89) rfl ?_
    refine Ends.ald Xj hx hZ ej A_mA rfl (i := 0) rfl rfl (hb hby d10_91) ?_
    refine E.astore (q := 94) (l' := #[.val (.ref oa), .val (.ref ob), .val (.int (1 : Int32)), .val (.ref mA), .val (.int (4 : Int32)), .val (.int (0 : Int32)), .val (.ref m0), s7]) Xj hx (hb hby d10_92) rfl (XS.store1 rfl hs6 rfl) ?_
    refine E.iconst (q := 95) (v := (0 : Int32)) Xj hx (hb hby d10_94) rfl ?_
    refine E.istore (q := 97) (l' := #[.val (.ref oa), .val (.ref ob), .val (.int (1 : Int32)), .val (.ref mA), .val (.int (4 : Int32)), .val (.int (0 : Int32)), .val (.ref m0), .val (.int (0 : Int32))]) Xj hx (hb hby d10_95) (XS.store1 rfl hs7 rfl) ?_
    refine E.iload (q := 99) Xj hx (hb hby d10_97) rfl ?_
    refine E.iloadN (q := 100) Xj hx (hb hby d10_99) rfl ?_
    refine E.icmpN (q := 103) Xj hx (hb hby d10_100) (XT.ii_ge_f (by decide)) ?_
    refine E.aload (q := 105) Xj hx (hb hby d10_103) rfl rfl ?_
    refine E.iload (q := 107) Xj hx (hb hby d10_105) rfl ?_
    refine Ends.dld Xj hx hZ ej A_m0 (i := 0) rfl rfl (hb hby d10_107) ?_
    refine E.ldc2D (q := 111) Xj hx hZ hown (hw _ (List.mem_of_getElem? (i := 75) rfl)) (hb hby d10_108) ?_
    refine E.dcmp (q := 112) Xj hx (hb hby d10_111) ?_
    by_cases hc579 : (cmpValue (FP.dcmp y00 (18442240474082181119 : UInt64)) .l) < (0 : Int32)
    · refine E.ifY (q := 127) Xj hx (hb hby d10_112) (XT.i0_lt_t hc579) ?_
      refine E.iload (q := 129) Xj hx (hb hby d10_127) rfl ?_
      refine E.istoreN (q := 130) (l' := #[.val (.ref oa), .val (.ref ob), .val (.int (0 : Int32)), .val (.ref mA), .val (.int (4 : Int32)), .val (.int (0 : Int32)), .val (.ref m0), .val (.int (0 : Int32))]) Xj hx (hb hby d10_129) rfl ?_
      refine E.iinc (q := 133) (v := (1 : Int32)) (l' := #[.val (.ref oa), .val (.ref ob), .val (.int (0 : Int32)), .val (.ref mA), .val (.int (4 : Int32)), .val (.int (0 : Int32)), .val (.ref m0), .val (.int (1 : Int32))]) Xj hx (hb hby d10_130) rfl (by decide) rfl ?_
      refine E.goto (q := 97) Xj hx (hb hby d10_133) ?_
      refine E.iload (q := 99) Xj hx (hb hby d10_97) rfl ?_
      refine E.iloadN (q := 100) Xj hx (hb hby d10_99) rfl ?_
      refine E.icmpY (q := 136) Xj hx (hb hby d10_100) (XT.ii_ge_t (by decide)) ?_
      refine E.iinc (q := 139) (v := (1 : Int32)) (l' := #[.val (.ref oa), .val (.ref ob), .val (.int (0 : Int32)), .val (.ref mA), .val (.int (4 : Int32)), .val (.int (1 : Int32)), .val (.ref m0), .val (.int (1 : Int32))]) Xj hx (hb hby d10_136) rfl (by decide) rfl ?_
      refine E.goto (q := 81) Xj hx (hb hby d10_139) ?_
      have hst : own_st C4 (1 : Int32) = (0 : Int32) := by rw [hC4]; simp [own_st, own_bi, own_bd, hc579]
      exact JM1_0 Tj (.val (.ref m0)) (.val (.int (1 : Int32))) Xj ej (Or.inr ⟨_, rfl, rfl⟩) (Or.inr ⟨_, rfl, rfl⟩) (hR.trans (congrArg (own_fold [C5, C6, C7]) hst))
    · refine E.ifN (q := 115) Xj hx (hb hby d10_112) (XT.i0_lt_f hc579) ?_
      refine E.aload (q := 117) Xj hx (hb hby d10_115) rfl rfl ?_
      refine E.iload (q := 119) Xj hx (hb hby d10_117) rfl ?_
      refine Ends.dld Xj hx hZ ej A_m0 (i := 0) rfl rfl (hb hby d10_119) ?_
      refine E.ldc2D (q := 123) Xj hx hZ hown (hw _ (List.mem_of_getElem? (i := 76) rfl)) (hb hby d10_120) ?_
      refine E.dcmp (q := 124) Xj hx (hb hby d10_123) ?_
      by_cases hc580 : (0 : Int32) < (cmpValue (FP.dcmp y00 (9218868437227405311 : UInt64)) .g)
      · refine E.ifN (q := 127) Xj hx (hb hby d10_124) (XT.i0_le_f hc580) ?_
        refine E.iload (q := 129) Xj hx (hb hby d10_127) rfl ?_
        refine E.istoreN (q := 130) (l' := #[.val (.ref oa), .val (.ref ob), .val (.int (0 : Int32)), .val (.ref mA), .val (.int (4 : Int32)), .val (.int (0 : Int32)), .val (.ref m0), .val (.int (0 : Int32))]) Xj hx (hb hby d10_129) rfl ?_
        refine E.iinc (q := 133) (v := (1 : Int32)) (l' := #[.val (.ref oa), .val (.ref ob), .val (.int (0 : Int32)), .val (.ref mA), .val (.int (4 : Int32)), .val (.int (0 : Int32)), .val (.ref m0), .val (.int (1 : Int32))]) Xj hx (hb hby d10_130) rfl (by decide) rfl ?_
        refine E.goto (q := 97) Xj hx (hb hby d10_133) ?_
        refine E.iload (q := 99) Xj hx (hb hby d10_97) rfl ?_
        refine E.iloadN (q := 100) Xj hx (hb hby d10_99) rfl ?_
        refine E.icmpY (q := 136) Xj hx (hb hby d10_100) (XT.ii_ge_t (by decide)) ?_
        refine E.iinc (q := 139) (v := (1 : Int32)) (l' := #[.val (.ref oa), .val (.ref ob), .val (.int (0 : Int32)), .val (.ref mA), .val (.int (4 : Int32)), .val (.int (1 : Int32)), .val (.ref m0), .val (.int (1 : Int32))]) Xj hx (hb hby d10_136) rfl (by decide) rfl ?_
        refine E.goto (q := 81) Xj hx (hb hby d10_139) ?_
        have hst : own_st C4 (1 : Int32) = (0 : Int32) := by rw [hC4]; simp [own_st, own_bi, own_bd, hc579, hc580]
        exact JM1_0 Tj (.val (.ref m0)) (.val (.int (1 : Int32))) Xj ej (Or.inr ⟨_, rfl, rfl⟩) (Or.inr ⟨_, rfl, rfl⟩) (hR.trans (congrArg (own_fold [C5, C6, C7]) hst))
      · refine E.ifY (q := 130) Xj hx (hb hby d10_124) (XT.i0_le_t hc580) ?_
        refine E.iinc (q := 133) (v := (1 : Int32)) (l' := #[.val (.ref oa), .val (.ref ob), .val (.int (1 : Int32)), .val (.ref mA), .val (.int (4 : Int32)), .val (.int (0 : Int32)), .val (.ref m0), .val (.int (1 : Int32))]) Xj hx (hb hby d10_130) rfl (by decide) rfl ?_
        refine E.goto (q := 97) Xj hx (hb hby d10_133) ?_
        refine E.iload (q := 99) Xj hx (hb hby d10_97) rfl ?_
        refine E.iloadN (q := 100) Xj hx (hb hby d10_99) rfl ?_
        refine E.icmpY (q := 136) Xj hx (hb hby d10_100) (XT.ii_ge_t (by decide)) ?_
        refine E.iinc (q := 139) (v := (1 : Int32)) (l' := #[.val (.ref oa), .val (.ref ob), .val (.int (1 : Int32)), .val (.ref mA), .val (.int (4 : Int32)), .val (.int (1 : Int32)), .val (.ref m0), .val (.int (1 : Int32))]) Xj hx (hb hby d10_136) rfl (by decide) rfl ?_
        refine E.goto (q := 81) Xj hx (hb hby d10_139) ?_
        have hst : own_st C4 (1 : Int32) = (1 : Int32) := by rw [hC4]; simp [own_st, own_bi, own_bd, hc579, hc580]
        exact JM1_1 Tj (.val (.ref m0)) (.val (.int (1 : Int32))) Xj ej (Or.inr ⟨_, rfl, rfl⟩) (Or.inr ⟨_, rfl, rfl⟩) (hR.trans (congrArg (own_fold [C5, C6, C7]) hst))
  have JM0_2 : ∀ (Tj : State) (s6 s7 : Slot), Stand p l e ({ frames := 0, cells := 0, slots := 0, locals := 0 } : Room) s m #[(.ref oa), (.ref ob)] below meth c Tj [] 0 0 → Tj.heap = h0 → (s6 = .unset ∨ ∃ w, s6 = .val w ∧ w.category = 1) → (s7 = .unset ∨ ∃ w, s7 = .val w ∧ w.category = 1) → own_fold [C0, C1, C2, C3, C4, C5, C6, C7] nz = own_fold [C4, C5, C6, C7] (2 : Int32) → Ends p e below s (fun v h L => v = some (.int (own_fold [C0, C1, C2, C3, C4, C5, C6, C7] nz)) ∧ h = h0 ∧ L = []) ({ frames := 0, cells := 0, slots := 0, locals := 0 } : Room).cells ({ frames := 0, cells := 0, slots := 0, locals := 0 } : Room).slots Tj (mkF m 81 #[.val (.ref oa), .val (.ref ob), .val (.int (2 : Int32)), .val (.ref mA), .val (.int (4 : Int32)), .val (.int (0 : Int32)), s6, s7] []) := by
    intro Tj s6 s7 Xj ej hs6 hs7 hR
    refine E.iload (q := 83) Xj hx (hb hby d10_81) rfl ?_
    refine E.iload (q := 85) Xj hx (hb hby d10_83) rfl ?_
    refine E.icmpN (q := 88) Xj hx (hb hby d10_85) (XT.ii_ge_f (by decide)) ?_
    refine E.aloadN (q := 89) Xj hx (hb hby d10_88) rfl rfl ?_
    refine E.iload (q := 91) Xj hx (hb hby d10_89) rfl ?_
    refine Ends.ald Xj hx hZ ej A_mA rfl (i := 0) rfl rfl (hb hby d10_91) ?_
    refine E.astore (q := 94) (l' := #[.val (.ref oa), .val (.ref ob), .val (.int (2 : Int32)), .val (.ref mA), .val (.int (4 : Int32)), .val (.int (0 : Int32)), .val (.ref m0), s7]) Xj hx (hb hby d10_92) rfl (XS.store1 rfl hs6 rfl) ?_
    refine E.iconst (q := 95) (v := (0 : Int32)) Xj hx (hb hby d10_94) rfl ?_
    refine E.istore (q := 97) (l' := #[.val (.ref oa), .val (.ref ob), .val (.int (2 : Int32)), .val (.ref mA), .val (.int (4 : Int32)), .val (.int (0 : Int32)), .val (.ref m0), .val (.int (0 : Int32))]) Xj hx (hb hby d10_95) (XS.store1 rfl hs7 rfl) ?_
    refine E.iload (q := 99) Xj hx (hb hby d10_97) rfl ?_
    refine E.iloadN (q := 100) Xj hx (hb hby d10_99) rfl ?_
    refine E.icmpN (q := 103) Xj hx (hb hby d10_100) (XT.ii_ge_f (by decide)) ?_
    refine E.aload (q := 105) Xj hx (hb hby d10_103) rfl rfl ?_
    refine E.iload (q := 107) Xj hx (hb hby d10_105) rfl ?_
    refine Ends.dld Xj hx hZ ej A_m0 (i := 0) rfl rfl (hb hby d10_107) ?_
    refine E.ldc2D (q := 111) Xj hx hZ hown (hw _ (List.mem_of_getElem? (i := 75) rfl)) (hb hby d10_108) ?_
    refine E.dcmp (q := 112) Xj hx (hb hby d10_111) ?_
    by_cases hc581 : (cmpValue (FP.dcmp y00 (18442240474082181119 : UInt64)) .l) < (0 : Int32)
    · refine E.ifY (q := 127) Xj hx (hb hby d10_112) (XT.i0_lt_t hc581) ?_
      refine E.iload (q := 129) Xj hx (hb hby d10_127) rfl ?_
      refine E.istoreN (q := 130) (l' := #[.val (.ref oa), .val (.ref ob), .val (.int (0 : Int32)), .val (.ref mA), .val (.int (4 : Int32)), .val (.int (0 : Int32)), .val (.ref m0), .val (.int (0 : Int32))]) Xj hx (hb hby d10_129) rfl ?_
      refine E.iinc (q := 133) (v := (1 : Int32)) (l' := #[.val (.ref oa), .val (.ref ob), .val (.int (0 : Int32)), .val (.ref mA), .val (.int (4 : Int32)), .val (.int (0 : Int32)), .val (.ref m0), .val (.int (1 : Int32))]) Xj hx (hb hby d10_130) rfl (by decide) rfl ?_
      refine E.goto (q := 97) Xj hx (hb hby d10_133) ?_
      refine E.iload (q := 99) Xj hx (hb hby d10_97) rfl ?_
      refine E.iloadN (q := 100) Xj hx (hb hby d10_99) rfl ?_
      refine E.icmpY (q := 136) Xj hx (hb hby d10_100) (XT.ii_ge_t (by decide)) ?_
      refine E.iinc (q := 139) (v := (1 : Int32)) (l' := #[.val (.ref oa), .val (.ref ob), .val (.int (0 : Int32)), .val (.ref mA), .val (.int (4 : Int32)), .val (.int (1 : Int32)), .val (.ref m0), .val (.int (1 : Int32))]) Xj hx (hb hby d10_136) rfl (by decide) rfl ?_
      refine E.goto (q := 81) Xj hx (hb hby d10_139) ?_
      have hst : own_st C4 (2 : Int32) = (0 : Int32) := by rw [hC4]; simp [own_st, own_bi, own_bd, hc581]
      exact JM1_0 Tj (.val (.ref m0)) (.val (.int (1 : Int32))) Xj ej (Or.inr ⟨_, rfl, rfl⟩) (Or.inr ⟨_, rfl, rfl⟩) (hR.trans (congrArg (own_fold [C5, C6, C7]) hst))
    · refine E.ifN (q := 115) Xj hx (hb hby d10_112) (XT.i0_lt_f hc581) ?_
      refine E.aload (q := 117) Xj hx (hb hby d10_115) rfl rfl ?_
      refine E.iload (q := 119) Xj hx (hb hby d10_117) rfl ?_
      refine Ends.dld Xj hx hZ ej A_m0 (i := 0) rfl rfl (hb hby d10_119) ?_
      refine E.ldc2D (q := 123) Xj hx hZ hown (hw _ (List.mem_of_getElem? (i := 76) rfl)) (hb hby d10_120) ?_
      refine E.dcmp (q := 124) Xj hx (hb hby d10_123) ?_
      by_cases hc582 : (0 : Int32) < (cmpValue (FP.dcmp y00 (9218868437227405311 : UInt64)) .g)
      · refine E.ifN (q := 127) Xj hx (hb hby d10_124) (XT.i0_le_f hc582) ?_
        refine E.iload (q := 129) Xj hx (hb hby d10_127) rfl ?_
        refine E.istoreN (q := 130) (l' := #[.val (.ref oa), .val (.ref ob), .val (.int (0 : Int32)), .val (.ref mA), .val (.int (4 : Int32)), .val (.int (0 : Int32)), .val (.ref m0), .val (.int (0 : Int32))]) Xj hx (hb hby d10_129) rfl ?_
        refine E.iinc (q := 133) (v := (1 : Int32)) (l' := #[.val (.ref oa), .val (.ref ob), .val (.int (0 : Int32)), .val (.ref mA), .val (.int (4 : Int32)), .val (.int (0 : Int32)), .val (.ref m0), .val (.int (1 : Int32))]) Xj hx (hb hby d10_130) rfl (by decide) rfl ?_
        refine E.goto (q := 97) Xj hx (hb hby d10_133) ?_
        refine E.iload (q := 99) Xj hx (hb hby d10_97) rfl ?_
        refine E.iloadN (q := 100) Xj hx (hb hby d10_99) rfl ?_
        refine E.icmpY (q := 136) Xj hx (hb hby d10_100) (XT.ii_ge_t (by decide)) ?_
        refine E.iinc (q := 139) (v := (1 : Int32)) (l' := #[.val (.ref oa), .val (.ref ob), .val (.int (0 : Int32)), .val (.ref mA), .val (.int (4 : Int32)), .val (.int (1 : Int32)), .val (.ref m0), .val (.int (1 : Int32))]) Xj hx (hb hby d10_136) rfl (by decide) rfl ?_
        refine E.goto (q := 81) Xj hx (hb hby d10_139) ?_
        have hst : own_st C4 (2 : Int32) = (0 : Int32) := by rw [hC4]; simp [own_st, own_bi, own_bd, hc581, hc582]
        exact JM1_0 Tj (.val (.ref m0)) (.val (.int (1 : Int32))) Xj ej (Or.inr ⟨_, rfl, rfl⟩) (Or.inr ⟨_, rfl, rfl⟩) (hR.trans (congrArg (own_fold [C5, C6, C7]) hst))
      · refine E.ifY (q := 130) Xj hx (hb hby d10_124) (XT.i0_le_t hc582) ?_
        refine E.iinc (q := 133) (v := (1 : Int32)) (l' := #[.val (.ref oa), .val (.ref ob), .val (.int (2 : Int32)), .val (.ref mA), .val (.int (4 : Int32)), .val (.int (0 : Int32)), .val (.ref m0), .val (.int (1 : Int32))]) Xj hx (hb hby d10_130) rfl (by decide) rfl ?_
        refine E.goto (q := 97) Xj hx (hb hby d10_133) ?_
        refine E.iload (q := 99) Xj hx (hb hby d10_97) rfl ?_
        refine E.iloadN (q := 100) Xj hx (hb hby d10_99) rfl ?_
        refine E.icmpN (q := 103) Xj hx (hb hby d10_100) (XT.ii_ge_f (by decide)) ?_
        refine E.aload (q := 105) Xj hx (hb hby d10_103) rfl rfl ?_
        refine E.iload (q := 107) Xj hx (hb hby d10_105) rfl ?_
        refine Ends.dld Xj hx hZ ej A_m0 (i := 1) rfl rfl (hb hby d10_107) ?_
        refine E.ldc2D (q := 111) Xj hx hZ hown (hw _ (List.mem_of_getElem? (i := 75) rfl)) (hb hby d10_108) ?_
        refine E.dcmp (q := 112) Xj hx (hb hby d10_111) ?_
        by_cases hc583 : (cmpValue (FP.dcmp y01 (18442240474082181119 : UInt64)) .l) < (0 : Int32)
        · refine E.ifY (q := 127) Xj hx (hb hby d10_112) (XT.i0_lt_t hc583) ?_
          refine E.iload (q := 129) Xj hx (hb hby d10_127) rfl ?_
          refine E.istoreN (q := 130) (l' := #[.val (.ref oa), .val (.ref ob), .val (.int (1 : Int32)), .val (.ref mA), .val (.int (4 : Int32)), .val (.int (0 : Int32)), .val (.ref m0), .val (.int (1 : Int32))]) Xj hx (hb hby d10_129) rfl ?_
          refine E.iinc (q := 133) (v := (2 : Int32)) (l' := #[.val (.ref oa), .val (.ref ob), .val (.int (1 : Int32)), .val (.ref mA), .val (.int (4 : Int32)), .val (.int (0 : Int32)), .val (.ref m0), .val (.int (2 : Int32))]) Xj hx (hb hby d10_130) rfl (by decide) rfl ?_
          refine E.goto (q := 97) Xj hx (hb hby d10_133) ?_
          refine E.iload (q := 99) Xj hx (hb hby d10_97) rfl ?_
          refine E.iloadN (q := 100) Xj hx (hb hby d10_99) rfl ?_
          refine E.icmpY (q := 136) Xj hx (hb hby d10_100) (XT.ii_ge_t (by decide)) ?_
          refine E.iinc (q := 139) (v := (1 : Int32)) (l' := #[.val (.ref oa), .val (.ref ob), .val (.int (1 : Int32)), .val (.ref mA), .val (.int (4 : Int32)), .val (.int (1 : Int32)), .val (.ref m0), .val (.int (2 : Int32))]) Xj hx (hb hby d10_136) rfl (by decide) rfl ?_
          refine E.goto (q := 81) Xj hx (hb hby d10_139) ?_
          have hst : own_st C4 (2 : Int32) = (1 : Int32) := by rw [hC4]; simp [own_st, own_bi, own_bd, hc581, hc582, hc583]
          exact JM1_1 Tj (.val (.ref m0)) (.val (.int (2 : Int32))) Xj ej (Or.inr ⟨_, rfl, rfl⟩) (Or.inr ⟨_, rfl, rfl⟩) (hR.trans (congrArg (own_fold [C5, C6, C7]) hst))
        · refine E.ifN (q := 115) Xj hx (hb hby d10_112) (XT.i0_lt_f hc583) ?_
          refine E.aload (q := 117) Xj hx (hb hby d10_115) rfl rfl ?_
          refine E.iload (q := 119) Xj hx (hb hby d10_117) rfl ?_
          refine Ends.dld Xj hx hZ ej A_m0 (i := 1) rfl rfl (hb hby d10_119) ?_
          refine E.ldc2D (q := 123) Xj hx hZ hown (hw _ (List.mem_of_getElem? (i := 76) rfl)) (hb hby d10_120) ?_
          refine E.dcmp (q := 124) Xj hx (hb hby d10_123) ?_
          by_cases hc584 : (0 : Int32) < (cmpValue (FP.dcmp y01 (9218868437227405311 : UInt64)) .g)
          · refine E.ifN (q := 127) Xj hx (hb hby d10_124) (XT.i0_le_f hc584) ?_
            refine E.iload (q := 129) Xj hx (hb hby d10_127) rfl ?_
            refine E.istoreN (q := 130) (l' := #[.val (.ref oa), .val (.ref ob), .val (.int (1 : Int32)), .val (.ref mA), .val (.int (4 : Int32)), .val (.int (0 : Int32)), .val (.ref m0), .val (.int (1 : Int32))]) Xj hx (hb hby d10_129) rfl ?_
            refine E.iinc (q := 133) (v := (2 : Int32)) (l' := #[.val (.ref oa), .val (.ref ob), .val (.int (1 : Int32)), .val (.ref mA), .val (.int (4 : Int32)), .val (.int (0 : Int32)), .val (.ref m0), .val (.int (2 : Int32))]) Xj hx (hb hby d10_130) rfl (by decide) rfl ?_
            refine E.goto (q := 97) Xj hx (hb hby d10_133) ?_
            refine E.iload (q := 99) Xj hx (hb hby d10_97) rfl ?_
            refine E.iloadN (q := 100) Xj hx (hb hby d10_99) rfl ?_
            refine E.icmpY (q := 136) Xj hx (hb hby d10_100) (XT.ii_ge_t (by decide)) ?_
            refine E.iinc (q := 139) (v := (1 : Int32)) (l' := #[.val (.ref oa), .val (.ref ob), .val (.int (1 : Int32)), .val (.ref mA), .val (.int (4 : Int32)), .val (.int (1 : Int32)), .val (.ref m0), .val (.int (2 : Int32))]) Xj hx (hb hby d10_136) rfl (by decide) rfl ?_
            refine E.goto (q := 81) Xj hx (hb hby d10_139) ?_
            have hst : own_st C4 (2 : Int32) = (1 : Int32) := by rw [hC4]; simp [own_st, own_bi, own_bd, hc581, hc582, hc583, hc584]
            exact JM1_1 Tj (.val (.ref m0)) (.val (.int (2 : Int32))) Xj ej (Or.inr ⟨_, rfl, rfl⟩) (Or.inr ⟨_, rfl, rfl⟩) (hR.trans (congrArg (own_fold [C5, C6, C7]) hst))
          · refine E.ifY (q := 130) Xj hx (hb hby d10_124) (XT.i0_le_t hc584) ?_
            refine E.iinc (q := 133) (v := (2 : Int32)) (l' := #[.val (.ref oa), .val (.ref ob), .val (.int (2 : Int32)), .val (.ref mA), .val (.int (4 : Int32)), .val (.int (0 : Int32)), .val (.ref m0), .val (.int (2 : Int32))]) Xj hx (hb hby d10_130) rfl (by decide) rfl ?_
            refine E.goto (q := 97) Xj hx (hb hby d10_133) ?_
            refine E.iload (q := 99) Xj hx (hb hby d10_97) rfl ?_
            refine E.iloadN (q := 100) Xj hx (hb hby d10_99) rfl ?_
            refine E.icmpY (q := 136) Xj hx (hb hby d10_100) (XT.ii_ge_t (by decide)) ?_
            refine E.iinc (q := 139) (v := (1 : Int32)) (l' := #[.val (.ref oa), .val (.ref ob), .val (.int (2 : Int32)), .val (.ref mA), .val (.int (4 : Int32)), .val (.int (1 : Int32)), .val (.ref m0), .val (.int (2 : Int32))]) Xj hx (hb hby d10_136) rfl (by decide) rfl ?_
            refine E.goto (q := 81) Xj hx (hb hby d10_139) ?_
            have hst : own_st C4 (2 : Int32) = (2 : Int32) := by rw [hC4]; simp [own_st, own_bi, own_bd, hc581, hc582, hc583, hc584]
            exact JM1_2 Tj (.val (.ref m0)) (.val (.int (2 : Int32))) Xj ej (Or.inr ⟨_, rfl, rfl⟩) (Or.inr ⟨_, rfl, rfl⟩) (hR.trans (congrArg (own_fold [C5, C6, C7]) hst))
  have JN4_0 : ∀ (Tj : State) (s4 s5 s6 s7 : Slot), Stand p l e ({ frames := 0, cells := 0, slots := 0, locals := 0 } : Room) s m #[(.ref oa), (.ref ob)] below meth c Tj [] 0 0 → Tj.heap = h0 → (s4 = .unset ∨ ∃ w, s4 = .val w ∧ w.category = 1) → (s5 = .unset ∨ ∃ w, s5 = .val w ∧ w.category = 1) → (s6 = .unset ∨ ∃ w, s6 = .val w ∧ w.category = 1) → (s7 = .unset ∨ ∃ w, s7 = .val w ∧ w.category = 1) → own_fold [C0, C1, C2, C3, C4, C5, C6, C7] nz = own_fold [C4, C5, C6, C7] (0 : Int32) → Ends p e below s (fun v h L => v = some (.int (own_fold [C0, C1, C2, C3, C4, C5, C6, C7] nz)) ∧ h = h0 ∧ L = []) ({ frames := 0, cells := 0, slots := 0, locals := 0 } : Room).cells ({ frames := 0, cells := 0, slots := 0, locals := 0 } : Room).slots Tj (mkF m 7 #[.val (.ref oa), .val (.ref ob), .val (.int (0 : Int32)), .val (.int (4 : Int32)), s4, s5, s6, s7] []) := by
    intro Tj s4 s5 s6 s7 Xj ej hs4 hs5 hs6 hs7 hR
    refine E.iloadN (q := 8) Xj hx (hb hby d10_7) rfl ?_
    refine Ends.getS Xj hx hZ hown (host := "") (Or.inl (hw _ (List.mem_of_getElem? (i := 14) rfl))) Via.refl ej (own_sta_keep S0 O0.1 own_ns0) (hb hby d10_8) ?_
    intro T585 X585 e585
    refine E.icmpY (q := 69) X585 hx (hb hby d10_11) (XT.ii_ge_t (by decide)) ?_
    refine E.aloadN (q := 70) X585 hx (hb hby d10_69) rfl rfl ?_
    refine Ends.getF X585 hx hZ hown (host := "") (Or.inl (hw _ (List.mem_of_getElem? (i := 28) rfl))) Via.refl e585 F_m (hb hby d10_70) ?_
    intro T586 X586 e586
    refine E.astoreN (q := 74) (l' := #[.val (.ref oa), .val (.ref ob), .val (.int (0 : Int32)), .val (.ref mA), s4, s5, s6, s7]) X586 hx (hb hby d10_73) rfl rfl ?_
    refine E.aloadN (q := 75) X586 hx (hb hby d10_74) rfl rfl ?_
    refine Ends.alen X586 hx hZ e586 A_mA (hb hby d10_75) (n := (4 : Int32)) rfl ?_
    refine E.istore (q := 78) (l' := #[.val (.ref oa), .val (.ref ob), .val (.int (0 : Int32)), .val (.ref mA), .val (.int (4 : Int32)), s5, s6, s7]) X586 hx (hb hby d10_76) (XS.store1 rfl hs4 rfl) ?_
    refine E.iconst (q := 79) (v := (0 : Int32)) X586 hx (hb hby d10_78) rfl ?_
    refine E.istore (q := 81) (l' := #[.val (.ref oa), .val (.ref ob), .val (.int (0 : Int32)), .val (.ref mA), .val (.int (4 : Int32)), .val (.int (0 : Int32)), s6, s7]) X586 hx (hb hby d10_79) (XS.store1 rfl hs5 rfl) ?_
    exact JM0_0 T586 s6 s7 X586 e586 hs6 hs7 hR
  have JN4_1 : ∀ (Tj : State) (s4 s5 s6 s7 : Slot), Stand p l e ({ frames := 0, cells := 0, slots := 0, locals := 0 } : Room) s m #[(.ref oa), (.ref ob)] below meth c Tj [] 0 0 → Tj.heap = h0 → (s4 = .unset ∨ ∃ w, s4 = .val w ∧ w.category = 1) → (s5 = .unset ∨ ∃ w, s5 = .val w ∧ w.category = 1) → (s6 = .unset ∨ ∃ w, s6 = .val w ∧ w.category = 1) → (s7 = .unset ∨ ∃ w, s7 = .val w ∧ w.category = 1) → own_fold [C0, C1, C2, C3, C4, C5, C6, C7] nz = own_fold [C4, C5, C6, C7] (1 : Int32) → Ends p e below s (fun v h L => v = some (.int (own_fold [C0, C1, C2, C3, C4, C5, C6, C7] nz)) ∧ h = h0 ∧ L = []) ({ frames := 0, cells := 0, slots := 0, locals := 0 } : Room).cells ({ frames := 0, cells := 0, slots := 0, locals := 0 } : Room).slots Tj (mkF m 7 #[.val (.ref oa), .val (.ref ob), .val (.int (1 : Int32)), .val (.int (4 : Int32)), s4, s5, s6, s7] []) := by
    intro Tj s4 s5 s6 s7 Xj ej hs4 hs5 hs6 hs7 hR
    refine E.iloadN (q := 8) Xj hx (hb hby d10_7) rfl ?_
    refine Ends.getS Xj hx hZ hown (host := "") (Or.inl (hw _ (List.mem_of_getElem? (i := 14) rfl))) Via.refl ej (own_sta_keep S0 O0.1 own_ns0) (hb hby d10_8) ?_
    intro T587 X587 e587
    refine E.icmpY (q := 69) X587 hx (hb hby d10_11) (XT.ii_ge_t (by decide)) ?_
    refine E.aloadN (q := 70) X587 hx (hb hby d10_69) rfl rfl ?_
    refine Ends.getF X587 hx hZ hown (host := "") (Or.inl (hw _ (List.mem_of_getElem? (i := 28) rfl))) Via.refl e587 F_m (hb hby d10_70) ?_
    intro T588 X588 e588
    refine E.astoreN (q := 74) (l' := #[.val (.ref oa), .val (.ref ob), .val (.int (1 : Int32)), .val (.ref mA), s4, s5, s6, s7]) X588 hx (hb hby d10_73) rfl rfl ?_
    refine E.aloadN (q := 75) X588 hx (hb hby d10_74) rfl rfl ?_
    refine Ends.alen X588 hx hZ e588 A_mA (hb hby d10_75) (n := (4 : Int32)) rfl ?_
    refine E.istore (q := 78) (l' := #[.val (.ref oa), .val (.ref ob), .val (.int (1 : Int32)), .val (.ref mA), .val (.int (4 : Int32)), s5, s6, s7]) X588 hx (hb hby d10_76) (XS.store1 rfl hs4 rfl) ?_
    refine E.iconst (q := 79) (v := (0 : Int32)) X588 hx (hb hby d10_78) rfl ?_
    refine E.istore (q := 81) (l' := #[.val (.ref oa), .val (.ref ob), .val (.int (1 : Int32)), .val (.ref mA), .val (.int (4 : Int32)), .val (.int (0 : Int32)), s6, s7]) X588 hx (hb hby d10_79) (XS.store1 rfl hs5 rfl) ?_
    exact JM0_1 T588 s6 s7 X588 e588 hs6 hs7 hR
  have JN4_2 : ∀ (Tj : State) (s4 s5 s6 s7 : Slot), Stand p l e ({ frames := 0, cells := 0, slots := 0, locals := 0 } : Room) s m #[(.ref oa), (.ref ob)] below meth c Tj [] 0 0 → Tj.heap = h0 → (s4 = .unset ∨ ∃ w, s4 = .val w ∧ w.category = 1) → (s5 = .unset ∨ ∃ w, s5 = .val w ∧ w.category = 1) → (s6 = .unset ∨ ∃ w, s6 = .val w ∧ w.category = 1) → (s7 = .unset ∨ ∃ w, s7 = .val w ∧ w.category = 1) → own_fold [C0, C1, C2, C3, C4, C5, C6, C7] nz = own_fold [C4, C5, C6, C7] (2 : Int32) → Ends p e below s (fun v h L => v = some (.int (own_fold [C0, C1, C2, C3, C4, C5, C6, C7] nz)) ∧ h = h0 ∧ L = []) ({ frames := 0, cells := 0, slots := 0, locals := 0 } : Room).cells ({ frames := 0, cells := 0, slots := 0, locals := 0 } : Room).slots Tj (mkF m 7 #[.val (.ref oa), .val (.ref ob), .val (.int (2 : Int32)), .val (.int (4 : Int32)), s4, s5, s6, s7] []) := by
    intro Tj s4 s5 s6 s7 Xj ej hs4 hs5 hs6 hs7 hR
    refine E.iloadN (q := 8) Xj hx (hb hby d10_7) rfl ?_
    refine Ends.getS Xj hx hZ hown (host := "") (Or.inl (hw _ (List.mem_of_getElem? (i := 14) rfl))) Via.refl ej (own_sta_keep S0 O0.1 own_ns0) (hb hby d10_8) ?_
    intro T589 X589 e589
    refine E.icmpY (q := 69) X589 hx (hb hby d10_11) (XT.ii_ge_t (by decide)) ?_
    refine E.aloadN (q := 70) X589 hx (hb hby d10_69) rfl rfl ?_
    refine Ends.getF X589 hx hZ hown (host := "") (Or.inl (hw _ (List.mem_of_getElem? (i := 28) rfl))) Via.refl e589 F_m (hb hby d10_70) ?_
    intro T590 X590 e590
    refine E.astoreN (q := 74) (l' := #[.val (.ref oa), .val (.ref ob), .val (.int (2 : Int32)), .val (.ref mA), s4, s5, s6, s7]) X590 hx (hb hby d10_73) rfl rfl ?_
    refine E.aloadN (q := 75) X590 hx (hb hby d10_74) rfl rfl ?_
    refine Ends.alen X590 hx hZ e590 A_mA (hb hby d10_75) (n := (4 : Int32)) rfl ?_
    refine E.istore (q := 78) (l' := #[.val (.ref oa), .val (.ref ob), .val (.int (2 : Int32)), .val (.ref mA), .val (.int (4 : Int32)), s5, s6, s7]) X590 hx (hb hby d10_76) (XS.store1 rfl hs4 rfl) ?_
    refine E.iconst (q := 79) (v := (0 : Int32)) X590 hx (hb hby d10_78) rfl ?_
    refine E.istore (q := 81) (l' := #[.val (.ref oa), .val (.ref ob), .val (.int (2 : Int32)), .val (.ref mA), .val (.int (4 : Int32)), .val (.int (0 : Int32)), s6, s7]) X590 hx (hb hby d10_79) (XS.store1 rfl hs5 rfl) ?_
    exact JM0_2 T590 s6 s7 X590 e590 hs6 hs7 hR
  have JN3_0 : ∀ (Tj : State) (s4 s5 s6 s7 : Slot), Stand p l e ({ frames := 0, cells := 0, slots := 0, locals := 0 } : Room) s m #[(.ref oa), (.ref ob)] below meth c Tj [] 0 0 → Tj.heap = h0 → (s4 = .unset ∨ ∃ w, s4 = .val w ∧ w.category = 1) → (s5 = .unset ∨ ∃ w, s5 = .val w ∧ w.category = 1) → (s6 = .unset ∨ ∃ w, s6 = .val w ∧ w.category = 1) → (s7 = .unset ∨ ∃ w, s7 = .val w ∧ w.category = 1) → own_fold [C0, C1, C2, C3, C4, C5, C6, C7] nz = own_fold [C3, C4, C5, C6, C7] (0 : Int32) → Ends p e below s (fun v h L => v = some (.int (own_fold [C0, C1, C2, C3, C4, C5, C6, C7] nz)) ∧ h = h0 ∧ L = []) ({ frames := 0, cells := 0, slots := 0, locals := 0 } : Room).cells ({ frames := 0, cells := 0, slots := 0, locals := 0 } : Room).slots Tj (mkF m 7 #[.val (.ref oa), .val (.ref ob), .val (.int (0 : Int32)), .val (.int (3 : Int32)), s4, s5, s6, s7] []) := by
    intro Tj s4 s5 s6 s7 Xj ej hs4 hs5 hs6 hs7 hR
    refine E.iloadN (q := 8) Xj hx (hb hby d10_7) rfl ?_
    refine Ends.getS Xj hx hZ hown (host := "") (Or.inl (hw _ (List.mem_of_getElem? (i := 14) rfl))) Via.refl ej (own_sta_keep S0 O0.1 own_ns0) (hb hby d10_8) ?_
    intro T591 X591 e591
    refine E.icmpN (q := 14) X591 hx (hb hby d10_11) (XT.ii_ge_f (by decide)) ?_
    refine E.aloadN (q := 15) X591 hx (hb hby d10_14) rfl rfl ?_
    refine Ends.getF X591 hx hZ hown (host := "") (Or.inl (hw _ (List.mem_of_getElem? (i := 26) rfl))) Via.refl e591 F_n (hb hby d10_15) ?_
    intro T592 X592 e592
    refine E.iloadN (q := 19) X592 hx (hb hby d10_18) rfl ?_
    refine Ends.ald X592 hx hZ e592 A_nA rfl (i := 3) rfl rfl (hb hby d10_19) ?_
    refine E.astore (q := 22) (l' := #[.val (.ref oa), .val (.ref ob), .val (.int (0 : Int32)), .val (.int (3 : Int32)), .val (.ref n3), s5, s6, s7]) X592 hx (hb hby d10_20) rfl (XS.store1 rfl hs4 rfl) ?_
    refine E.aloadN (q := 23) X592 hx (hb hby d10_22) rfl rfl ?_
    refine E.iloadN (q := 24) X592 hx (hb hby d10_23) rfl ?_
    refine Ends.ild X592 hx hZ e592 A_ob (i := 3) rfl rfl (hb hby d10_24) ?_
    refine E.istore (q := 27) (l' := #[.val (.ref oa), .val (.ref ob), .val (.int (0 : Int32)), .val (.int (3 : Int32)), .val (.ref n3), .val (.int bv3), s6, s7]) X592 hx (hb hby d10_25) (XS.store1 rfl hs5 rfl) ?_
    refine E.iconst (q := 28) (v := (0 : Int32)) X592 hx (hb hby d10_27) rfl ?_
    refine E.istore (q := 30) (l' := #[.val (.ref oa), .val (.ref ob), .val (.int (0 : Int32)), .val (.int (3 : Int32)), .val (.ref n3), .val (.int bv3), .val (.int (0 : Int32)), s7]) X592 hx (hb hby d10_28) (XS.store1 rfl hs6 rfl) ?_
    refine E.iload (q := 32) X592 hx (hb hby d10_30) rfl ?_
    refine E.iloadN (q := 33) X592 hx (hb hby d10_32) rfl ?_
    refine E.icmpY (q := 63) X592 hx (hb hby d10_33) (XT.ii_ge_t (by decide)) ?_
    refine E.iinc (q := 66) (v := (4 : Int32)) (l' := #[.val (.ref oa), .val (.ref ob), .val (.int (0 : Int32)), .val (.int (4 : Int32)), .val (.ref n3), .val (.int bv3), .val (.int (0 : Int32)), s7]) X592 hx (hb hby d10_63) rfl (by decide) rfl ?_
    refine E.goto (q := 7) X592 hx (hb hby d10_66) ?_
    have hst : own_st C3 (0 : Int32) = (0 : Int32) := by rw [hC3]; simp [own_st, own_bi, own_bd]
    exact JN4_0 T592 (.val (.ref n3)) (.val (.int bv3)) (.val (.int (0 : Int32))) s7 X592 e592 (Or.inr ⟨_, rfl, rfl⟩) (Or.inr ⟨_, rfl, rfl⟩) (Or.inr ⟨_, rfl, rfl⟩) hs7 (hR.trans (congrArg (own_fold [C4, C5, C6, C7]) hst))
  have JN3_1 : ∀ (Tj : State) (s4 s5 s6 s7 : Slot), Stand p l e ({ frames := 0, cells := 0, slots := 0, locals := 0 } : Room) s m #[(.ref oa), (.ref ob)] below meth c Tj [] 0 0 → Tj.heap = h0 → (s4 = .unset ∨ ∃ w, s4 = .val w ∧ w.category = 1) → (s5 = .unset ∨ ∃ w, s5 = .val w ∧ w.category = 1) → (s6 = .unset ∨ ∃ w, s6 = .val w ∧ w.category = 1) → (s7 = .unset ∨ ∃ w, s7 = .val w ∧ w.category = 1) → own_fold [C0, C1, C2, C3, C4, C5, C6, C7] nz = own_fold [C3, C4, C5, C6, C7] (1 : Int32) → Ends p e below s (fun v h L => v = some (.int (own_fold [C0, C1, C2, C3, C4, C5, C6, C7] nz)) ∧ h = h0 ∧ L = []) ({ frames := 0, cells := 0, slots := 0, locals := 0 } : Room).cells ({ frames := 0, cells := 0, slots := 0, locals := 0 } : Room).slots Tj (mkF m 7 #[.val (.ref oa), .val (.ref ob), .val (.int (1 : Int32)), .val (.int (3 : Int32)), s4, s5, s6, s7] []) := by
    intro Tj s4 s5 s6 s7 Xj ej hs4 hs5 hs6 hs7 hR
    refine E.iloadN (q := 8) Xj hx (hb hby d10_7) rfl ?_
    refine Ends.getS Xj hx hZ hown (host := "") (Or.inl (hw _ (List.mem_of_getElem? (i := 14) rfl))) Via.refl ej (own_sta_keep S0 O0.1 own_ns0) (hb hby d10_8) ?_
    intro T593 X593 e593
    refine E.icmpN (q := 14) X593 hx (hb hby d10_11) (XT.ii_ge_f (by decide)) ?_
    refine E.aloadN (q := 15) X593 hx (hb hby d10_14) rfl rfl ?_
    refine Ends.getF X593 hx hZ hown (host := "") (Or.inl (hw _ (List.mem_of_getElem? (i := 26) rfl))) Via.refl e593 F_n (hb hby d10_15) ?_
    intro T594 X594 e594
    refine E.iloadN (q := 19) X594 hx (hb hby d10_18) rfl ?_
    refine Ends.ald X594 hx hZ e594 A_nA rfl (i := 3) rfl rfl (hb hby d10_19) ?_
    refine E.astore (q := 22) (l' := #[.val (.ref oa), .val (.ref ob), .val (.int (1 : Int32)), .val (.int (3 : Int32)), .val (.ref n3), s5, s6, s7]) X594 hx (hb hby d10_20) rfl (XS.store1 rfl hs4 rfl) ?_
    refine E.aloadN (q := 23) X594 hx (hb hby d10_22) rfl rfl ?_
    refine E.iloadN (q := 24) X594 hx (hb hby d10_23) rfl ?_
    refine Ends.ild X594 hx hZ e594 A_ob (i := 3) rfl rfl (hb hby d10_24) ?_
    refine E.istore (q := 27) (l' := #[.val (.ref oa), .val (.ref ob), .val (.int (1 : Int32)), .val (.int (3 : Int32)), .val (.ref n3), .val (.int bv3), s6, s7]) X594 hx (hb hby d10_25) (XS.store1 rfl hs5 rfl) ?_
    refine E.iconst (q := 28) (v := (0 : Int32)) X594 hx (hb hby d10_27) rfl ?_
    refine E.istore (q := 30) (l' := #[.val (.ref oa), .val (.ref ob), .val (.int (1 : Int32)), .val (.int (3 : Int32)), .val (.ref n3), .val (.int bv3), .val (.int (0 : Int32)), s7]) X594 hx (hb hby d10_28) (XS.store1 rfl hs6 rfl) ?_
    refine E.iload (q := 32) X594 hx (hb hby d10_30) rfl ?_
    refine E.iloadN (q := 33) X594 hx (hb hby d10_32) rfl ?_
    refine E.icmpN (q := 36) X594 hx (hb hby d10_33) (XT.ii_ge_f (by decide)) ?_
    refine E.aload (q := 38) X594 hx (hb hby d10_36) rfl rfl ?_
    refine E.iload (q := 40) X594 hx (hb hby d10_38) rfl ?_
    refine Ends.ild X594 hx hZ e594 A_n3 (i := 0) rfl rfl (hb hby d10_40) ?_
    by_cases hc595 : x30 < (0 : Int32)
    · refine E.ifY (q := 54) X594 hx (hb hby d10_41) (XT.i0_lt_t hc595) ?_
      refine E.iload (q := 56) X594 hx (hb hby d10_54) rfl ?_
      refine E.istoreN (q := 57) (l' := #[.val (.ref oa), .val (.ref ob), .val (.int (0 : Int32)), .val (.int (3 : Int32)), .val (.ref n3), .val (.int bv3), .val (.int (0 : Int32)), s7]) X594 hx (hb hby d10_56) rfl ?_
      refine E.iinc (q := 60) (v := (1 : Int32)) (l' := #[.val (.ref oa), .val (.ref ob), .val (.int (0 : Int32)), .val (.int (3 : Int32)), .val (.ref n3), .val (.int bv3), .val (.int (1 : Int32)), s7]) X594 hx (hb hby d10_57) rfl (by decide) rfl ?_
      refine E.goto (q := 30) X594 hx (hb hby d10_60) ?_
      refine E.iload (q := 32) X594 hx (hb hby d10_30) rfl ?_
      refine E.iloadN (q := 33) X594 hx (hb hby d10_32) rfl ?_
      refine E.icmpY (q := 63) X594 hx (hb hby d10_33) (XT.ii_ge_t (by decide)) ?_
      refine E.iinc (q := 66) (v := (4 : Int32)) (l' := #[.val (.ref oa), .val (.ref ob), .val (.int (0 : Int32)), .val (.int (4 : Int32)), .val (.ref n3), .val (.int bv3), .val (.int (1 : Int32)), s7]) X594 hx (hb hby d10_63) rfl (by decide) rfl ?_
      refine E.goto (q := 7) X594 hx (hb hby d10_66) ?_
      have hst : own_st C3 (1 : Int32) = (0 : Int32) := by rw [hC3]; simp [own_st, own_bi, own_bd, hc595]
      exact JN4_0 T594 (.val (.ref n3)) (.val (.int bv3)) (.val (.int (1 : Int32))) s7 X594 e594 (Or.inr ⟨_, rfl, rfl⟩) (Or.inr ⟨_, rfl, rfl⟩) (Or.inr ⟨_, rfl, rfl⟩) hs7 (hR.trans (congrArg (own_fold [C4, C5, C6, C7]) hst))
    · refine E.ifN (q := 44) X594 hx (hb hby d10_41) (XT.i0_lt_f hc595) ?_
      refine E.aload (q := 46) X594 hx (hb hby d10_44) rfl rfl ?_
      refine E.iload (q := 48) X594 hx (hb hby d10_46) rfl ?_
      refine Ends.ild X594 hx hZ e594 A_n3 (i := 0) rfl rfl (hb hby d10_48) ?_
      refine E.iload (q := 51) X594 hx (hb hby d10_49) rfl ?_
      by_cases hc596 : x30 < bv3
      · refine E.icmpY (q := 57) X594 hx (hb hby d10_51) (XT.ii_lt_t hc596) ?_
        refine E.iinc (q := 60) (v := (1 : Int32)) (l' := #[.val (.ref oa), .val (.ref ob), .val (.int (1 : Int32)), .val (.int (3 : Int32)), .val (.ref n3), .val (.int bv3), .val (.int (1 : Int32)), s7]) X594 hx (hb hby d10_57) rfl (by decide) rfl ?_
        refine E.goto (q := 30) X594 hx (hb hby d10_60) ?_
        refine E.iload (q := 32) X594 hx (hb hby d10_30) rfl ?_
        refine E.iloadN (q := 33) X594 hx (hb hby d10_32) rfl ?_
        refine E.icmpY (q := 63) X594 hx (hb hby d10_33) (XT.ii_ge_t (by decide)) ?_
        refine E.iinc (q := 66) (v := (4 : Int32)) (l' := #[.val (.ref oa), .val (.ref ob), .val (.int (1 : Int32)), .val (.int (4 : Int32)), .val (.ref n3), .val (.int bv3), .val (.int (1 : Int32)), s7]) X594 hx (hb hby d10_63) rfl (by decide) rfl ?_
        refine E.goto (q := 7) X594 hx (hb hby d10_66) ?_
        have hst : own_st C3 (1 : Int32) = (1 : Int32) := by rw [hC3]; simp [own_st, own_bi, own_bd, hc595, hc596]
        exact JN4_1 T594 (.val (.ref n3)) (.val (.int bv3)) (.val (.int (1 : Int32))) s7 X594 e594 (Or.inr ⟨_, rfl, rfl⟩) (Or.inr ⟨_, rfl, rfl⟩) (Or.inr ⟨_, rfl, rfl⟩) hs7 (hR.trans (congrArg (own_fold [C4, C5, C6, C7]) hst))
      · refine E.icmpN (q := 54) X594 hx (hb hby d10_51) (XT.ii_lt_f hc596) ?_
        refine E.iload (q := 56) X594 hx (hb hby d10_54) rfl ?_
        refine E.istoreN (q := 57) (l' := #[.val (.ref oa), .val (.ref ob), .val (.int (0 : Int32)), .val (.int (3 : Int32)), .val (.ref n3), .val (.int bv3), .val (.int (0 : Int32)), s7]) X594 hx (hb hby d10_56) rfl ?_
        refine E.iinc (q := 60) (v := (1 : Int32)) (l' := #[.val (.ref oa), .val (.ref ob), .val (.int (0 : Int32)), .val (.int (3 : Int32)), .val (.ref n3), .val (.int bv3), .val (.int (1 : Int32)), s7]) X594 hx (hb hby d10_57) rfl (by decide) rfl ?_
        refine E.goto (q := 30) X594 hx (hb hby d10_60) ?_
        refine E.iload (q := 32) X594 hx (hb hby d10_30) rfl ?_
        refine E.iloadN (q := 33) X594 hx (hb hby d10_32) rfl ?_
        refine E.icmpY (q := 63) X594 hx (hb hby d10_33) (XT.ii_ge_t (by decide)) ?_
        refine E.iinc (q := 66) (v := (4 : Int32)) (l' := #[.val (.ref oa), .val (.ref ob), .val (.int (0 : Int32)), .val (.int (4 : Int32)), .val (.ref n3), .val (.int bv3), .val (.int (1 : Int32)), s7]) X594 hx (hb hby d10_63) rfl (by decide) rfl ?_
        refine E.goto (q := 7) X594 hx (hb hby d10_66) ?_
        have hst : own_st C3 (1 : Int32) = (0 : Int32) := by rw [hC3]; simp [own_st, own_bi, own_bd, hc595, hc596]
        exact JN4_0 T594 (.val (.ref n3)) (.val (.int bv3)) (.val (.int (1 : Int32))) s7 X594 e594 (Or.inr ⟨_, rfl, rfl⟩) (Or.inr ⟨_, rfl, rfl⟩) (Or.inr ⟨_, rfl, rfl⟩) hs7 (hR.trans (congrArg (own_fold [C4, C5, C6, C7]) hst))
  have JN3_2 : ∀ (Tj : State) (s4 s5 s6 s7 : Slot), Stand p l e ({ frames := 0, cells := 0, slots := 0, locals := 0 } : Room) s m #[(.ref oa), (.ref ob)] below meth c Tj [] 0 0 → Tj.heap = h0 → (s4 = .unset ∨ ∃ w, s4 = .val w ∧ w.category = 1) → (s5 = .unset ∨ ∃ w, s5 = .val w ∧ w.category = 1) → (s6 = .unset ∨ ∃ w, s6 = .val w ∧ w.category = 1) → (s7 = .unset ∨ ∃ w, s7 = .val w ∧ w.category = 1) → own_fold [C0, C1, C2, C3, C4, C5, C6, C7] nz = own_fold [C3, C4, C5, C6, C7] (2 : Int32) → Ends p e below s (fun v h L => v = some (.int (own_fold [C0, C1, C2, C3, C4, C5, C6, C7] nz)) ∧ h = h0 ∧ L = []) ({ frames := 0, cells := 0, slots := 0, locals := 0 } : Room).cells ({ frames := 0, cells := 0, slots := 0, locals := 0 } : Room).slots Tj (mkF m 7 #[.val (.ref oa), .val (.ref ob), .val (.int (2 : Int32)), .val (.int (3 : Int32)), s4, s5, s6, s7] []) := by
    intro Tj s4 s5 s6 s7 Xj ej hs4 hs5 hs6 hs7 hR
    refine E.iloadN (q := 8) Xj hx (hb hby d10_7) rfl ?_
    refine Ends.getS Xj hx hZ hown (host := "") (Or.inl (hw _ (List.mem_of_getElem? (i := 14) rfl))) Via.refl ej (own_sta_keep S0 O0.1 own_ns0) (hb hby d10_8) ?_
    intro T597 X597 e597
    refine E.icmpN (q := 14) X597 hx (hb hby d10_11) (XT.ii_ge_f (by decide)) ?_
    refine E.aloadN (q := 15) X597 hx (hb hby d10_14) rfl rfl ?_
    refine Ends.getF X597 hx hZ hown (host := "") (Or.inl (hw _ (List.mem_of_getElem? (i := 26) rfl))) Via.refl e597 F_n (hb hby d10_15) ?_
    intro T598 X598 e598
    refine E.iloadN (q := 19) X598 hx (hb hby d10_18) rfl ?_
    refine Ends.ald X598 hx hZ e598 A_nA rfl (i := 3) rfl rfl (hb hby d10_19) ?_
    refine E.astore (q := 22) (l' := #[.val (.ref oa), .val (.ref ob), .val (.int (2 : Int32)), .val (.int (3 : Int32)), .val (.ref n3), s5, s6, s7]) X598 hx (hb hby d10_20) rfl (XS.store1 rfl hs4 rfl) ?_
    refine E.aloadN (q := 23) X598 hx (hb hby d10_22) rfl rfl ?_
    refine E.iloadN (q := 24) X598 hx (hb hby d10_23) rfl ?_
    refine Ends.ild X598 hx hZ e598 A_ob (i := 3) rfl rfl (hb hby d10_24) ?_
    refine E.istore (q := 27) (l' := #[.val (.ref oa), .val (.ref ob), .val (.int (2 : Int32)), .val (.int (3 : Int32)), .val (.ref n3), .val (.int bv3), s6, s7]) X598 hx (hb hby d10_25) (XS.store1 rfl hs5 rfl) ?_
    refine E.iconst (q := 28) (v := (0 : Int32)) X598 hx (hb hby d10_27) rfl ?_
    refine E.istore (q := 30) (l' := #[.val (.ref oa), .val (.ref ob), .val (.int (2 : Int32)), .val (.int (3 : Int32)), .val (.ref n3), .val (.int bv3), .val (.int (0 : Int32)), s7]) X598 hx (hb hby d10_28) (XS.store1 rfl hs6 rfl) ?_
    refine E.iload (q := 32) X598 hx (hb hby d10_30) rfl ?_
    refine E.iloadN (q := 33) X598 hx (hb hby d10_32) rfl ?_
    refine E.icmpN (q := 36) X598 hx (hb hby d10_33) (XT.ii_ge_f (by decide)) ?_
    refine E.aload (q := 38) X598 hx (hb hby d10_36) rfl rfl ?_
    refine E.iload (q := 40) X598 hx (hb hby d10_38) rfl ?_
    refine Ends.ild X598 hx hZ e598 A_n3 (i := 0) rfl rfl (hb hby d10_40) ?_
    by_cases hc599 : x30 < (0 : Int32)
    · refine E.ifY (q := 54) X598 hx (hb hby d10_41) (XT.i0_lt_t hc599) ?_
      refine E.iload (q := 56) X598 hx (hb hby d10_54) rfl ?_
      refine E.istoreN (q := 57) (l' := #[.val (.ref oa), .val (.ref ob), .val (.int (0 : Int32)), .val (.int (3 : Int32)), .val (.ref n3), .val (.int bv3), .val (.int (0 : Int32)), s7]) X598 hx (hb hby d10_56) rfl ?_
      refine E.iinc (q := 60) (v := (1 : Int32)) (l' := #[.val (.ref oa), .val (.ref ob), .val (.int (0 : Int32)), .val (.int (3 : Int32)), .val (.ref n3), .val (.int bv3), .val (.int (1 : Int32)), s7]) X598 hx (hb hby d10_57) rfl (by decide) rfl ?_
      refine E.goto (q := 30) X598 hx (hb hby d10_60) ?_
      refine E.iload (q := 32) X598 hx (hb hby d10_30) rfl ?_
      refine E.iloadN (q := 33) X598 hx (hb hby d10_32) rfl ?_
      refine E.icmpY (q := 63) X598 hx (hb hby d10_33) (XT.ii_ge_t (by decide)) ?_
      refine E.iinc (q := 66) (v := (4 : Int32)) (l' := #[.val (.ref oa), .val (.ref ob), .val (.int (0 : Int32)), .val (.int (4 : Int32)), .val (.ref n3), .val (.int bv3), .val (.int (1 : Int32)), s7]) X598 hx (hb hby d10_63) rfl (by decide) rfl ?_
      refine E.goto (q := 7) X598 hx (hb hby d10_66) ?_
      have hst : own_st C3 (2 : Int32) = (0 : Int32) := by rw [hC3]; simp [own_st, own_bi, own_bd, hc599]
      exact JN4_0 T598 (.val (.ref n3)) (.val (.int bv3)) (.val (.int (1 : Int32))) s7 X598 e598 (Or.inr ⟨_, rfl, rfl⟩) (Or.inr ⟨_, rfl, rfl⟩) (Or.inr ⟨_, rfl, rfl⟩) hs7 (hR.trans (congrArg (own_fold [C4, C5, C6, C7]) hst))
    · refine E.ifN (q := 44) X598 hx (hb hby d10_41) (XT.i0_lt_f hc599) ?_
      refine E.aload (q := 46) X598 hx (hb hby d10_44) rfl rfl ?_
      refine E.iload (q := 48) X598 hx (hb hby d10_46) rfl ?_
      refine Ends.ild X598 hx hZ e598 A_n3 (i := 0) rfl rfl (hb hby d10_48) ?_
      refine E.iload (q := 51) X598 hx (hb hby d10_49) rfl ?_
      by_cases hc600 : x30 < bv3
      · refine E.icmpY (q := 57) X598 hx (hb hby d10_51) (XT.ii_lt_t hc600) ?_
        refine E.iinc (q := 60) (v := (1 : Int32)) (l' := #[.val (.ref oa), .val (.ref ob), .val (.int (2 : Int32)), .val (.int (3 : Int32)), .val (.ref n3), .val (.int bv3), .val (.int (1 : Int32)), s7]) X598 hx (hb hby d10_57) rfl (by decide) rfl ?_
        refine E.goto (q := 30) X598 hx (hb hby d10_60) ?_
        refine E.iload (q := 32) X598 hx (hb hby d10_30) rfl ?_
        refine E.iloadN (q := 33) X598 hx (hb hby d10_32) rfl ?_
        refine E.icmpN (q := 36) X598 hx (hb hby d10_33) (XT.ii_ge_f (by decide)) ?_
        refine E.aload (q := 38) X598 hx (hb hby d10_36) rfl rfl ?_
        refine E.iload (q := 40) X598 hx (hb hby d10_38) rfl ?_
        refine Ends.ild X598 hx hZ e598 A_n3 (i := 1) rfl rfl (hb hby d10_40) ?_
        by_cases hc601 : x31 < (0 : Int32)
        · refine E.ifY (q := 54) X598 hx (hb hby d10_41) (XT.i0_lt_t hc601) ?_
          refine E.iload (q := 56) X598 hx (hb hby d10_54) rfl ?_
          refine E.istoreN (q := 57) (l' := #[.val (.ref oa), .val (.ref ob), .val (.int (1 : Int32)), .val (.int (3 : Int32)), .val (.ref n3), .val (.int bv3), .val (.int (1 : Int32)), s7]) X598 hx (hb hby d10_56) rfl ?_
          refine E.iinc (q := 60) (v := (2 : Int32)) (l' := #[.val (.ref oa), .val (.ref ob), .val (.int (1 : Int32)), .val (.int (3 : Int32)), .val (.ref n3), .val (.int bv3), .val (.int (2 : Int32)), s7]) X598 hx (hb hby d10_57) rfl (by decide) rfl ?_
          refine E.goto (q := 30) X598 hx (hb hby d10_60) ?_
          refine E.iload (q := 32) X598 hx (hb hby d10_30) rfl ?_
          refine E.iloadN (q := 33) X598 hx (hb hby d10_32) rfl ?_
          refine E.icmpY (q := 63) X598 hx (hb hby d10_33) (XT.ii_ge_t (by decide)) ?_
          refine E.iinc (q := 66) (v := (4 : Int32)) (l' := #[.val (.ref oa), .val (.ref ob), .val (.int (1 : Int32)), .val (.int (4 : Int32)), .val (.ref n3), .val (.int bv3), .val (.int (2 : Int32)), s7]) X598 hx (hb hby d10_63) rfl (by decide) rfl ?_
          refine E.goto (q := 7) X598 hx (hb hby d10_66) ?_
          have hst : own_st C3 (2 : Int32) = (1 : Int32) := by rw [hC3]; simp [own_st, own_bi, own_bd, hc599, hc600, hc601]
          exact JN4_1 T598 (.val (.ref n3)) (.val (.int bv3)) (.val (.int (2 : Int32))) s7 X598 e598 (Or.inr ⟨_, rfl, rfl⟩) (Or.inr ⟨_, rfl, rfl⟩) (Or.inr ⟨_, rfl, rfl⟩) hs7 (hR.trans (congrArg (own_fold [C4, C5, C6, C7]) hst))
        · refine E.ifN (q := 44) X598 hx (hb hby d10_41) (XT.i0_lt_f hc601) ?_
          refine E.aload (q := 46) X598 hx (hb hby d10_44) rfl rfl ?_
          refine E.iload (q := 48) X598 hx (hb hby d10_46) rfl ?_
          refine Ends.ild X598 hx hZ e598 A_n3 (i := 1) rfl rfl (hb hby d10_48) ?_
          refine E.iload (q := 51) X598 hx (hb hby d10_49) rfl ?_
          by_cases hc602 : x31 < bv3
          · refine E.icmpY (q := 57) X598 hx (hb hby d10_51) (XT.ii_lt_t hc602) ?_
            refine E.iinc (q := 60) (v := (2 : Int32)) (l' := #[.val (.ref oa), .val (.ref ob), .val (.int (2 : Int32)), .val (.int (3 : Int32)), .val (.ref n3), .val (.int bv3), .val (.int (2 : Int32)), s7]) X598 hx (hb hby d10_57) rfl (by decide) rfl ?_
            refine E.goto (q := 30) X598 hx (hb hby d10_60) ?_
            refine E.iload (q := 32) X598 hx (hb hby d10_30) rfl ?_
            refine E.iloadN (q := 33) X598 hx (hb hby d10_32) rfl ?_
            refine E.icmpY (q := 63) X598 hx (hb hby d10_33) (XT.ii_ge_t (by decide)) ?_
            refine E.iinc (q := 66) (v := (4 : Int32)) (l' := #[.val (.ref oa), .val (.ref ob), .val (.int (2 : Int32)), .val (.int (4 : Int32)), .val (.ref n3), .val (.int bv3), .val (.int (2 : Int32)), s7]) X598 hx (hb hby d10_63) rfl (by decide) rfl ?_
            refine E.goto (q := 7) X598 hx (hb hby d10_66) ?_
            have hst : own_st C3 (2 : Int32) = (2 : Int32) := by rw [hC3]; simp [own_st, own_bi, own_bd, hc599, hc600, hc601, hc602]
            exact JN4_2 T598 (.val (.ref n3)) (.val (.int bv3)) (.val (.int (2 : Int32))) s7 X598 e598 (Or.inr ⟨_, rfl, rfl⟩) (Or.inr ⟨_, rfl, rfl⟩) (Or.inr ⟨_, rfl, rfl⟩) hs7 (hR.trans (congrArg (own_fold [C4, C5, C6, C7]) hst))
          · refine E.icmpN (q := 54) X598 hx (hb hby d10_51) (XT.ii_lt_f hc602) ?_
            refine E.iload (q := 56) X598 hx (hb hby d10_54) rfl ?_
            refine E.istoreN (q := 57) (l' := #[.val (.ref oa), .val (.ref ob), .val (.int (1 : Int32)), .val (.int (3 : Int32)), .val (.ref n3), .val (.int bv3), .val (.int (1 : Int32)), s7]) X598 hx (hb hby d10_56) rfl ?_
            refine E.iinc (q := 60) (v := (2 : Int32)) (l' := #[.val (.ref oa), .val (.ref ob), .val (.int (1 : Int32)), .val (.int (3 : Int32)), .val (.ref n3), .val (.int bv3), .val (.int (2 : Int32)), s7]) X598 hx (hb hby d10_57) rfl (by decide) rfl ?_
            refine E.goto (q := 30) X598 hx (hb hby d10_60) ?_
            refine E.iload (q := 32) X598 hx (hb hby d10_30) rfl ?_
            refine E.iloadN (q := 33) X598 hx (hb hby d10_32) rfl ?_
            refine E.icmpY (q := 63) X598 hx (hb hby d10_33) (XT.ii_ge_t (by decide)) ?_
            refine E.iinc (q := 66) (v := (4 : Int32)) (l' := #[.val (.ref oa), .val (.ref ob), .val (.int (1 : Int32)), .val (.int (4 : Int32)), .val (.ref n3), .val (.int bv3), .val (.int (2 : Int32)), s7]) X598 hx (hb hby d10_63) rfl (by decide) rfl ?_
            refine E.goto (q := 7) X598 hx (hb hby d10_66) ?_
            have hst : own_st C3 (2 : Int32) = (1 : Int32) := by rw [hC3]; simp [own_st, own_bi, own_bd, hc599, hc600, hc601, hc602]
            exact JN4_1 T598 (.val (.ref n3)) (.val (.int bv3)) (.val (.int (2 : Int32))) s7 X598 e598 (Or.inr ⟨_, rfl, rfl⟩) (Or.inr ⟨_, rfl, rfl⟩) (Or.inr ⟨_, rfl, rfl⟩) hs7 (hR.trans (congrArg (own_fold [C4, C5, C6, C7]) hst))
      · refine E.icmpN (q := 54) X598 hx (hb hby d10_51) (XT.ii_lt_f hc600) ?_
        refine E.iload (q := 56) X598 hx (hb hby d10_54) rfl ?_
        refine E.istoreN (q := 57) (l' := #[.val (.ref oa), .val (.ref ob), .val (.int (0 : Int32)), .val (.int (3 : Int32)), .val (.ref n3), .val (.int bv3), .val (.int (0 : Int32)), s7]) X598 hx (hb hby d10_56) rfl ?_
        refine E.iinc (q := 60) (v := (1 : Int32)) (l' := #[.val (.ref oa), .val (.ref ob), .val (.int (0 : Int32)), .val (.int (3 : Int32)), .val (.ref n3), .val (.int bv3), .val (.int (1 : Int32)), s7]) X598 hx (hb hby d10_57) rfl (by decide) rfl ?_
        refine E.goto (q := 30) X598 hx (hb hby d10_60) ?_
        refine E.iload (q := 32) X598 hx (hb hby d10_30) rfl ?_
        refine E.iloadN (q := 33) X598 hx (hb hby d10_32) rfl ?_
        refine E.icmpY (q := 63) X598 hx (hb hby d10_33) (XT.ii_ge_t (by decide)) ?_
        refine E.iinc (q := 66) (v := (4 : Int32)) (l' := #[.val (.ref oa), .val (.ref ob), .val (.int (0 : Int32)), .val (.int (4 : Int32)), .val (.ref n3), .val (.int bv3), .val (.int (1 : Int32)), s7]) X598 hx (hb hby d10_63) rfl (by decide) rfl ?_
        refine E.goto (q := 7) X598 hx (hb hby d10_66) ?_
        have hst : own_st C3 (2 : Int32) = (0 : Int32) := by rw [hC3]; simp [own_st, own_bi, own_bd, hc599, hc600]
        exact JN4_0 T598 (.val (.ref n3)) (.val (.int bv3)) (.val (.int (1 : Int32))) s7 X598 e598 (Or.inr ⟨_, rfl, rfl⟩) (Or.inr ⟨_, rfl, rfl⟩) (Or.inr ⟨_, rfl, rfl⟩) hs7 (hR.trans (congrArg (own_fold [C4, C5, C6, C7]) hst))
  have JN2_0 : ∀ (Tj : State) (s4 s5 s6 s7 : Slot), Stand p l e ({ frames := 0, cells := 0, slots := 0, locals := 0 } : Room) s m #[(.ref oa), (.ref ob)] below meth c Tj [] 0 0 → Tj.heap = h0 → (s4 = .unset ∨ ∃ w, s4 = .val w ∧ w.category = 1) → (s5 = .unset ∨ ∃ w, s5 = .val w ∧ w.category = 1) → (s6 = .unset ∨ ∃ w, s6 = .val w ∧ w.category = 1) → (s7 = .unset ∨ ∃ w, s7 = .val w ∧ w.category = 1) → own_fold [C0, C1, C2, C3, C4, C5, C6, C7] nz = own_fold [C2, C3, C4, C5, C6, C7] (0 : Int32) → Ends p e below s (fun v h L => v = some (.int (own_fold [C0, C1, C2, C3, C4, C5, C6, C7] nz)) ∧ h = h0 ∧ L = []) ({ frames := 0, cells := 0, slots := 0, locals := 0 } : Room).cells ({ frames := 0, cells := 0, slots := 0, locals := 0 } : Room).slots Tj (mkF m 7 #[.val (.ref oa), .val (.ref ob), .val (.int (0 : Int32)), .val (.int (2 : Int32)), s4, s5, s6, s7] []) := by
    intro Tj s4 s5 s6 s7 Xj ej hs4 hs5 hs6 hs7 hR
    refine E.iloadN (q := 8) Xj hx (hb hby d10_7) rfl ?_
    refine Ends.getS Xj hx hZ hown (host := "") (Or.inl (hw _ (List.mem_of_getElem? (i := 14) rfl))) Via.refl ej (own_sta_keep S0 O0.1 own_ns0) (hb hby d10_8) ?_
    intro T603 X603 e603
    refine E.icmpN (q := 14) X603 hx (hb hby d10_11) (XT.ii_ge_f (by decide)) ?_
    refine E.aloadN (q := 15) X603 hx (hb hby d10_14) rfl rfl ?_
    refine Ends.getF X603 hx hZ hown (host := "") (Or.inl (hw _ (List.mem_of_getElem? (i := 26) rfl))) Via.refl e603 F_n (hb hby d10_15) ?_
    intro T604 X604 e604
    refine E.iloadN (q := 19) X604 hx (hb hby d10_18) rfl ?_
    refine Ends.ald X604 hx hZ e604 A_nA rfl (i := 2) rfl rfl (hb hby d10_19) ?_
    refine E.astore (q := 22) (l' := #[.val (.ref oa), .val (.ref ob), .val (.int (0 : Int32)), .val (.int (2 : Int32)), .val (.ref n2), s5, s6, s7]) X604 hx (hb hby d10_20) rfl (XS.store1 rfl hs4 rfl) ?_
    refine E.aloadN (q := 23) X604 hx (hb hby d10_22) rfl rfl ?_
    refine E.iloadN (q := 24) X604 hx (hb hby d10_23) rfl ?_
    refine Ends.ild X604 hx hZ e604 A_ob (i := 2) rfl rfl (hb hby d10_24) ?_
    refine E.istore (q := 27) (l' := #[.val (.ref oa), .val (.ref ob), .val (.int (0 : Int32)), .val (.int (2 : Int32)), .val (.ref n2), .val (.int bv2), s6, s7]) X604 hx (hb hby d10_25) (XS.store1 rfl hs5 rfl) ?_
    refine E.iconst (q := 28) (v := (0 : Int32)) X604 hx (hb hby d10_27) rfl ?_
    refine E.istore (q := 30) (l' := #[.val (.ref oa), .val (.ref ob), .val (.int (0 : Int32)), .val (.int (2 : Int32)), .val (.ref n2), .val (.int bv2), .val (.int (0 : Int32)), s7]) X604 hx (hb hby d10_28) (XS.store1 rfl hs6 rfl) ?_
    refine E.iload (q := 32) X604 hx (hb hby d10_30) rfl ?_
    refine E.iloadN (q := 33) X604 hx (hb hby d10_32) rfl ?_
    refine E.icmpY (q := 63) X604 hx (hb hby d10_33) (XT.ii_ge_t (by decide)) ?_
    refine E.iinc (q := 66) (v := (3 : Int32)) (l' := #[.val (.ref oa), .val (.ref ob), .val (.int (0 : Int32)), .val (.int (3 : Int32)), .val (.ref n2), .val (.int bv2), .val (.int (0 : Int32)), s7]) X604 hx (hb hby d10_63) rfl (by decide) rfl ?_
    refine E.goto (q := 7) X604 hx (hb hby d10_66) ?_
    have hst : own_st C2 (0 : Int32) = (0 : Int32) := by rw [hC2]; simp [own_st, own_bi, own_bd]
    exact JN3_0 T604 (.val (.ref n2)) (.val (.int bv2)) (.val (.int (0 : Int32))) s7 X604 e604 (Or.inr ⟨_, rfl, rfl⟩) (Or.inr ⟨_, rfl, rfl⟩) (Or.inr ⟨_, rfl, rfl⟩) hs7 (hR.trans (congrArg (own_fold [C3, C4, C5, C6, C7]) hst))
  have JN2_1 : ∀ (Tj : State) (s4 s5 s6 s7 : Slot), Stand p l e ({ frames := 0, cells := 0, slots := 0, locals := 0 } : Room) s m #[(.ref oa), (.ref ob)] below meth c Tj [] 0 0 → Tj.heap = h0 → (s4 = .unset ∨ ∃ w, s4 = .val w ∧ w.category = 1) → (s5 = .unset ∨ ∃ w, s5 = .val w ∧ w.category = 1) → (s6 = .unset ∨ ∃ w, s6 = .val w ∧ w.category = 1) → (s7 = .unset ∨ ∃ w, s7 = .val w ∧ w.category = 1) → own_fold [C0, C1, C2, C3, C4, C5, C6, C7] nz = own_fold [C2, C3, C4, C5, C6, C7] (1 : Int32) → Ends p e below s (fun v h L => v = some (.int (own_fold [C0, C1, C2, C3, C4, C5, C6, C7] nz)) ∧ h = h0 ∧ L = []) ({ frames := 0, cells := 0, slots := 0, locals := 0 } : Room).cells ({ frames := 0, cells := 0, slots := 0, locals := 0 } : Room).slots Tj (mkF m 7 #[.val (.ref oa), .val (.ref ob), .val (.int (1 : Int32)), .val (.int (2 : Int32)), s4, s5, s6, s7] []) := by
    intro Tj s4 s5 s6 s7 Xj ej hs4 hs5 hs6 hs7 hR
    refine E.iloadN (q := 8) Xj hx (hb hby d10_7) rfl ?_
    refine Ends.getS Xj hx hZ hown (host := "") (Or.inl (hw _ (List.mem_of_getElem? (i := 14) rfl))) Via.refl ej (own_sta_keep S0 O0.1 own_ns0) (hb hby d10_8) ?_
    intro T605 X605 e605
    refine E.icmpN (q := 14) X605 hx (hb hby d10_11) (XT.ii_ge_f (by decide)) ?_
    refine E.aloadN (q := 15) X605 hx (hb hby d10_14) rfl rfl ?_
    refine Ends.getF X605 hx hZ hown (host := "") (Or.inl (hw _ (List.mem_of_getElem? (i := 26) rfl))) Via.refl e605 F_n (hb hby d10_15) ?_
    intro T606 X606 e606
    refine E.iloadN (q := 19) X606 hx (hb hby d10_18) rfl ?_
    refine Ends.ald X606 hx hZ e606 A_nA rfl (i := 2) rfl rfl (hb hby d10_19) ?_
    refine E.astore (q := 22) (l' := #[.val (.ref oa), .val (.ref ob), .val (.int (1 : Int32)), .val (.int (2 : Int32)), .val (.ref n2), s5, s6, s7]) X606 hx (hb hby d10_20) rfl (XS.store1 rfl hs4 rfl) ?_
    refine E.aloadN (q := 23) X606 hx (hb hby d10_22) rfl rfl ?_
    refine E.iloadN (q := 24) X606 hx (hb hby d10_23) rfl ?_
    refine Ends.ild X606 hx hZ e606 A_ob (i := 2) rfl rfl (hb hby d10_24) ?_
    refine E.istore (q := 27) (l' := #[.val (.ref oa), .val (.ref ob), .val (.int (1 : Int32)), .val (.int (2 : Int32)), .val (.ref n2), .val (.int bv2), s6, s7]) X606 hx (hb hby d10_25) (XS.store1 rfl hs5 rfl) ?_
    refine E.iconst (q := 28) (v := (0 : Int32)) X606 hx (hb hby d10_27) rfl ?_
    refine E.istore (q := 30) (l' := #[.val (.ref oa), .val (.ref ob), .val (.int (1 : Int32)), .val (.int (2 : Int32)), .val (.ref n2), .val (.int bv2), .val (.int (0 : Int32)), s7]) X606 hx (hb hby d10_28) (XS.store1 rfl hs6 rfl) ?_
    refine E.iload (q := 32) X606 hx (hb hby d10_30) rfl ?_
    refine E.iloadN (q := 33) X606 hx (hb hby d10_32) rfl ?_
    refine E.icmpN (q := 36) X606 hx (hb hby d10_33) (XT.ii_ge_f (by decide)) ?_
    refine E.aload (q := 38) X606 hx (hb hby d10_36) rfl rfl ?_
    refine E.iload (q := 40) X606 hx (hb hby d10_38) rfl ?_
    refine Ends.ild X606 hx hZ e606 A_n2 (i := 0) rfl rfl (hb hby d10_40) ?_
    by_cases hc607 : x20 < (0 : Int32)
    · refine E.ifY (q := 54) X606 hx (hb hby d10_41) (XT.i0_lt_t hc607) ?_
      refine E.iload (q := 56) X606 hx (hb hby d10_54) rfl ?_
      refine E.istoreN (q := 57) (l' := #[.val (.ref oa), .val (.ref ob), .val (.int (0 : Int32)), .val (.int (2 : Int32)), .val (.ref n2), .val (.int bv2), .val (.int (0 : Int32)), s7]) X606 hx (hb hby d10_56) rfl ?_
      refine E.iinc (q := 60) (v := (1 : Int32)) (l' := #[.val (.ref oa), .val (.ref ob), .val (.int (0 : Int32)), .val (.int (2 : Int32)), .val (.ref n2), .val (.int bv2), .val (.int (1 : Int32)), s7]) X606 hx (hb hby d10_57) rfl (by decide) rfl ?_
      refine E.goto (q := 30) X606 hx (hb hby d10_60) ?_
      refine E.iload (q := 32) X606 hx (hb hby d10_30) rfl ?_
      refine E.iloadN (q := 33) X606 hx (hb hby d10_32) rfl ?_
      refine E.icmpY (q := 63) X606 hx (hb hby d10_33) (XT.ii_ge_t (by decide)) ?_
      refine E.iinc (q := 66) (v := (3 : Int32)) (l' := #[.val (.ref oa), .val (.ref ob), .val (.int (0 : Int32)), .val (.int (3 : Int32)), .val (.ref n2), .val (.int bv2), .val (.int (1 : Int32)), s7]) X606 hx (hb hby d10_63) rfl (by decide) rfl ?_
      refine E.goto (q := 7) X606 hx (hb hby d10_66) ?_
      have hst : own_st C2 (1 : Int32) = (0 : Int32) := by rw [hC2]; simp [own_st, own_bi, own_bd, hc607]
      exact JN3_0 T606 (.val (.ref n2)) (.val (.int bv2)) (.val (.int (1 : Int32))) s7 X606 e606 (Or.inr ⟨_, rfl, rfl⟩) (Or.inr ⟨_, rfl, rfl⟩) (Or.inr ⟨_, rfl, rfl⟩) hs7 (hR.trans (congrArg (own_fold [C3, C4, C5, C6, C7]) hst))
    · refine E.ifN (q := 44) X606 hx (hb hby d10_41) (XT.i0_lt_f hc607) ?_
      refine E.aload (q := 46) X606 hx (hb hby d10_44) rfl rfl ?_
      refine E.iload (q := 48) X606 hx (hb hby d10_46) rfl ?_
      refine Ends.ild X606 hx hZ e606 A_n2 (i := 0) rfl rfl (hb hby d10_48) ?_
      refine E.iload (q := 51) X606 hx (hb hby d10_49) rfl ?_
      by_cases hc608 : x20 < bv2
      · refine E.icmpY (q := 57) X606 hx (hb hby d10_51) (XT.ii_lt_t hc608) ?_
        refine E.iinc (q := 60) (v := (1 : Int32)) (l' := #[.val (.ref oa), .val (.ref ob), .val (.int (1 : Int32)), .val (.int (2 : Int32)), .val (.ref n2), .val (.int bv2), .val (.int (1 : Int32)), s7]) X606 hx (hb hby d10_57) rfl (by decide) rfl ?_
        refine E.goto (q := 30) X606 hx (hb hby d10_60) ?_
        refine E.iload (q := 32) X606 hx (hb hby d10_30) rfl ?_
        refine E.iloadN (q := 33) X606 hx (hb hby d10_32) rfl ?_
        refine E.icmpY (q := 63) X606 hx (hb hby d10_33) (XT.ii_ge_t (by decide)) ?_
        refine E.iinc (q := 66) (v := (3 : Int32)) (l' := #[.val (.ref oa), .val (.ref ob), .val (.int (1 : Int32)), .val (.int (3 : Int32)), .val (.ref n2), .val (.int bv2), .val (.int (1 : Int32)), s7]) X606 hx (hb hby d10_63) rfl (by decide) rfl ?_
        refine E.goto (q := 7) X606 hx (hb hby d10_66) ?_
        have hst : own_st C2 (1 : Int32) = (1 : Int32) := by rw [hC2]; simp [own_st, own_bi, own_bd, hc607, hc608]
        exact JN3_1 T606 (.val (.ref n2)) (.val (.int bv2)) (.val (.int (1 : Int32))) s7 X606 e606 (Or.inr ⟨_, rfl, rfl⟩) (Or.inr ⟨_, rfl, rfl⟩) (Or.inr ⟨_, rfl, rfl⟩) hs7 (hR.trans (congrArg (own_fold [C3, C4, C5, C6, C7]) hst))
      · refine E.icmpN (q := 54) X606 hx (hb hby d10_51) (XT.ii_lt_f hc608) ?_
        refine E.iload (q := 56) X606 hx (hb hby d10_54) rfl ?_
        refine E.istoreN (q := 57) (l' := #[.val (.ref oa), .val (.ref ob), .val (.int (0 : Int32)), .val (.int (2 : Int32)), .val (.ref n2), .val (.int bv2), .val (.int (0 : Int32)), s7]) X606 hx (hb hby d10_56) rfl ?_
        refine E.iinc (q := 60) (v := (1 : Int32)) (l' := #[.val (.ref oa), .val (.ref ob), .val (.int (0 : Int32)), .val (.int (2 : Int32)), .val (.ref n2), .val (.int bv2), .val (.int (1 : Int32)), s7]) X606 hx (hb hby d10_57) rfl (by decide) rfl ?_
        refine E.goto (q := 30) X606 hx (hb hby d10_60) ?_
        refine E.iload (q := 32) X606 hx (hb hby d10_30) rfl ?_
        refine E.iloadN (q := 33) X606 hx (hb hby d10_32) rfl ?_
        refine E.icmpY (q := 63) X606 hx (hb hby d10_33) (XT.ii_ge_t (by decide)) ?_
        refine E.iinc (q := 66) (v := (3 : Int32)) (l' := #[.val (.ref oa), .val (.ref ob), .val (.int (0 : Int32)), .val (.int (3 : Int32)), .val (.ref n2), .val (.int bv2), .val (.int (1 : Int32)), s7]) X606 hx (hb hby d10_63) rfl (by decide) rfl ?_
        refine E.goto (q := 7) X606 hx (hb hby d10_66) ?_
        have hst : own_st C2 (1 : Int32) = (0 : Int32) := by rw [hC2]; simp [own_st, own_bi, own_bd, hc607, hc608]
        exact JN3_0 T606 (.val (.ref n2)) (.val (.int bv2)) (.val (.int (1 : Int32))) s7 X606 e606 (Or.inr ⟨_, rfl, rfl⟩) (Or.inr ⟨_, rfl, rfl⟩) (Or.inr ⟨_, rfl, rfl⟩) hs7 (hR.trans (congrArg (own_fold [C3, C4, C5, C6, C7]) hst))
  have JN2_2 : ∀ (Tj : State) (s4 s5 s6 s7 : Slot), Stand p l e ({ frames := 0, cells := 0, slots := 0, locals := 0 } : Room) s m #[(.ref oa), (.ref ob)] below meth c Tj [] 0 0 → Tj.heap = h0 → (s4 = .unset ∨ ∃ w, s4 = .val w ∧ w.category = 1) → (s5 = .unset ∨ ∃ w, s5 = .val w ∧ w.category = 1) → (s6 = .unset ∨ ∃ w, s6 = .val w ∧ w.category = 1) → (s7 = .unset ∨ ∃ w, s7 = .val w ∧ w.category = 1) → own_fold [C0, C1, C2, C3, C4, C5, C6, C7] nz = own_fold [C2, C3, C4, C5, C6, C7] (2 : Int32) → Ends p e below s (fun v h L => v = some (.int (own_fold [C0, C1, C2, C3, C4, C5, C6, C7] nz)) ∧ h = h0 ∧ L = []) ({ frames := 0, cells := 0, slots := 0, locals := 0 } : Room).cells ({ frames := 0, cells := 0, slots := 0, locals := 0 } : Room).slots Tj (mkF m 7 #[.val (.ref oa), .val (.ref ob), .val (.int (2 : Int32)), .val (.int (2 : Int32)), s4, s5, s6, s7] []) := by
    intro Tj s4 s5 s6 s7 Xj ej hs4 hs5 hs6 hs7 hR
    refine E.iloadN (q := 8) Xj hx (hb hby d10_7) rfl ?_
    refine Ends.getS Xj hx hZ hown (host := "") (Or.inl (hw _ (List.mem_of_getElem? (i := 14) rfl))) Via.refl ej (own_sta_keep S0 O0.1 own_ns0) (hb hby d10_8) ?_
    intro T609 X609 e609
    refine E.icmpN (q := 14) X609 hx (hb hby d10_11) (XT.ii_ge_f (by decide)) ?_
    refine E.aloadN (q := 15) X609 hx (hb hby d10_14) rfl rfl ?_
    refine Ends.getF X609 hx hZ hown (host := "") (Or.inl (hw _ (List.mem_of_getElem? (i := 26) rfl))) Via.refl e609 F_n (hb hby d10_15) ?_
    intro T610 X610 e610
    refine E.iloadN (q := 19) X610 hx (hb hby d10_18) rfl ?_
    refine Ends.ald X610 hx hZ e610 A_nA rfl (i := 2) rfl rfl (hb hby d10_19) ?_
    refine E.astore (q := 22) (l' := #[.val (.ref oa), .val (.ref ob), .val (.int (2 : Int32)), .val (.int (2 : Int32)), .val (.ref n2), s5, s6, s7]) X610 hx (hb hby d10_20) rfl (XS.store1 rfl hs4 rfl) ?_
    refine E.aloadN (q := 23) X610 hx (hb hby d10_22) rfl rfl ?_
    refine E.iloadN (q := 24) X610 hx (hb hby d10_23) rfl ?_
    refine Ends.ild X610 hx hZ e610 A_ob (i := 2) rfl rfl (hb hby d10_24) ?_
    refine E.istore (q := 27) (l' := #[.val (.ref oa), .val (.ref ob), .val (.int (2 : Int32)), .val (.int (2 : Int32)), .val (.ref n2), .val (.int bv2), s6, s7]) X610 hx (hb hby d10_25) (XS.store1 rfl hs5 rfl) ?_
    refine E.iconst (q := 28) (v := (0 : Int32)) X610 hx (hb hby d10_27) rfl ?_
    refine E.istore (q := 30) (l' := #[.val (.ref oa), .val (.ref ob), .val (.int (2 : Int32)), .val (.int (2 : Int32)), .val (.ref n2), .val (.int bv2), .val (.int (0 : Int32)), s7]) X610 hx (hb hby d10_28) (XS.store1 rfl hs6 rfl) ?_
    refine E.iload (q := 32) X610 hx (hb hby d10_30) rfl ?_
    refine E.iloadN (q := 33) X610 hx (hb hby d10_32) rfl ?_
    refine E.icmpN (q := 36) X610 hx (hb hby d10_33) (XT.ii_ge_f (by decide)) ?_
    refine E.aload (q := 38) X610 hx (hb hby d10_36) rfl rfl ?_
    refine E.iload (q := 40) X610 hx (hb hby d10_38) rfl ?_
    refine Ends.ild X610 hx hZ e610 A_n2 (i := 0) rfl rfl (hb hby d10_40) ?_
    by_cases hc611 : x20 < (0 : Int32)
    · refine E.ifY (q := 54) X610 hx (hb hby d10_41) (XT.i0_lt_t hc611) ?_
      refine E.iload (q := 56) X610 hx (hb hby d10_54) rfl ?_
      refine E.istoreN (q := 57) (l' := #[.val (.ref oa), .val (.ref ob), .val (.int (0 : Int32)), .val (.int (2 : Int32)), .val (.ref n2), .val (.int bv2), .val (.int (0 : Int32)), s7]) X610 hx (hb hby d10_56) rfl ?_
      refine E.iinc (q := 60) (v := (1 : Int32)) (l' := #[.val (.ref oa), .val (.ref ob), .val (.int (0 : Int32)), .val (.int (2 : Int32)), .val (.ref n2), .val (.int bv2), .val (.int (1 : Int32)), s7]) X610 hx (hb hby d10_57) rfl (by decide) rfl ?_
      refine E.goto (q := 30) X610 hx (hb hby d10_60) ?_
      refine E.iload (q := 32) X610 hx (hb hby d10_30) rfl ?_
      refine E.iloadN (q := 33) X610 hx (hb hby d10_32) rfl ?_
      refine E.icmpY (q := 63) X610 hx (hb hby d10_33) (XT.ii_ge_t (by decide)) ?_
      refine E.iinc (q := 66) (v := (3 : Int32)) (l' := #[.val (.ref oa), .val (.ref ob), .val (.int (0 : Int32)), .val (.int (3 : Int32)), .val (.ref n2), .val (.int bv2), .val (.int (1 : Int32)), s7]) X610 hx (hb hby d10_63) rfl (by decide) rfl ?_
      refine E.goto (q := 7) X610 hx (hb hby d10_66) ?_
      have hst : own_st C2 (2 : Int32) = (0 : Int32) := by rw [hC2]; simp [own_st, own_bi, own_bd, hc611]
      exact JN3_0 T610 (.val (.ref n2)) (.val (.int bv2)) (.val (.int (1 : Int32))) s7 X610 e610 (Or.inr ⟨_, rfl, rfl⟩) (Or.inr ⟨_, rfl, rfl⟩) (Or.inr ⟨_, rfl, rfl⟩) hs7 (hR.trans (congrArg (own_fold [C3, C4, C5, C6, C7]) hst))
    · refine E.ifN (q := 44) X610 hx (hb hby d10_41) (XT.i0_lt_f hc611) ?_
      refine E.aload (q := 46) X610 hx (hb hby d10_44) rfl rfl ?_
      refine E.iload (q := 48) X610 hx (hb hby d10_46) rfl ?_
      refine Ends.ild X610 hx hZ e610 A_n2 (i := 0) rfl rfl (hb hby d10_48) ?_
      refine E.iload (q := 51) X610 hx (hb hby d10_49) rfl ?_
      by_cases hc612 : x20 < bv2
      · refine E.icmpY (q := 57) X610 hx (hb hby d10_51) (XT.ii_lt_t hc612) ?_
        refine E.iinc (q := 60) (v := (1 : Int32)) (l' := #[.val (.ref oa), .val (.ref ob), .val (.int (2 : Int32)), .val (.int (2 : Int32)), .val (.ref n2), .val (.int bv2), .val (.int (1 : Int32)), s7]) X610 hx (hb hby d10_57) rfl (by decide) rfl ?_
        refine E.goto (q := 30) X610 hx (hb hby d10_60) ?_
        refine E.iload (q := 32) X610 hx (hb hby d10_30) rfl ?_
        refine E.iloadN (q := 33) X610 hx (hb hby d10_32) rfl ?_
        refine E.icmpN (q := 36) X610 hx (hb hby d10_33) (XT.ii_ge_f (by decide)) ?_
        refine E.aload (q := 38) X610 hx (hb hby d10_36) rfl rfl ?_
        refine E.iload (q := 40) X610 hx (hb hby d10_38) rfl ?_
        refine Ends.ild X610 hx hZ e610 A_n2 (i := 1) rfl rfl (hb hby d10_40) ?_
        by_cases hc613 : x21 < (0 : Int32)
        · refine E.ifY (q := 54) X610 hx (hb hby d10_41) (XT.i0_lt_t hc613) ?_
          refine E.iload (q := 56) X610 hx (hb hby d10_54) rfl ?_
          refine E.istoreN (q := 57) (l' := #[.val (.ref oa), .val (.ref ob), .val (.int (1 : Int32)), .val (.int (2 : Int32)), .val (.ref n2), .val (.int bv2), .val (.int (1 : Int32)), s7]) X610 hx (hb hby d10_56) rfl ?_
          refine E.iinc (q := 60) (v := (2 : Int32)) (l' := #[.val (.ref oa), .val (.ref ob), .val (.int (1 : Int32)), .val (.int (2 : Int32)), .val (.ref n2), .val (.int bv2), .val (.int (2 : Int32)), s7]) X610 hx (hb hby d10_57) rfl (by decide) rfl ?_
          refine E.goto (q := 30) X610 hx (hb hby d10_60) ?_
          refine E.iload (q := 32) X610 hx (hb hby d10_30) rfl ?_
          refine E.iloadN (q := 33) X610 hx (hb hby d10_32) rfl ?_
          refine E.icmpY (q := 63) X610 hx (hb hby d10_33) (XT.ii_ge_t (by decide)) ?_
          refine E.iinc (q := 66) (v := (3 : Int32)) (l' := #[.val (.ref oa), .val (.ref ob), .val (.int (1 : Int32)), .val (.int (3 : Int32)), .val (.ref n2), .val (.int bv2), .val (.int (2 : Int32)), s7]) X610 hx (hb hby d10_63) rfl (by decide) rfl ?_
          refine E.goto (q := 7) X610 hx (hb hby d10_66) ?_
          have hst : own_st C2 (2 : Int32) = (1 : Int32) := by rw [hC2]; simp [own_st, own_bi, own_bd, hc611, hc612, hc613]
          exact JN3_1 T610 (.val (.ref n2)) (.val (.int bv2)) (.val (.int (2 : Int32))) s7 X610 e610 (Or.inr ⟨_, rfl, rfl⟩) (Or.inr ⟨_, rfl, rfl⟩) (Or.inr ⟨_, rfl, rfl⟩) hs7 (hR.trans (congrArg (own_fold [C3, C4, C5, C6, C7]) hst))
        · refine E.ifN (q := 44) X610 hx (hb hby d10_41) (XT.i0_lt_f hc613) ?_
          refine E.aload (q := 46) X610 hx (hb hby d10_44) rfl rfl ?_
          refine E.iload (q := 48) X610 hx (hb hby d10_46) rfl ?_
          refine Ends.ild X610 hx hZ e610 A_n2 (i := 1) rfl rfl (hb hby d10_48) ?_
          refine E.iload (q := 51) X610 hx (hb hby d10_49) rfl ?_
          by_cases hc614 : x21 < bv2
          · refine E.icmpY (q := 57) X610 hx (hb hby d10_51) (XT.ii_lt_t hc614) ?_
            refine E.iinc (q := 60) (v := (2 : Int32)) (l' := #[.val (.ref oa), .val (.ref ob), .val (.int (2 : Int32)), .val (.int (2 : Int32)), .val (.ref n2), .val (.int bv2), .val (.int (2 : Int32)), s7]) X610 hx (hb hby d10_57) rfl (by decide) rfl ?_
            refine E.goto (q := 30) X610 hx (hb hby d10_60) ?_
            refine E.iload (q := 32) X610 hx (hb hby d10_30) rfl ?_
            refine E.iloadN (q := 33) X610 hx (hb hby d10_32) rfl ?_
            refine E.icmpY (q := 63) X610 hx (hb hby d10_33) (XT.ii_ge_t (by decide)) ?_
            refine E.iinc (q := 66) (v := (3 : Int32)) (l' := #[.val (.ref oa), .val (.ref ob), .val (.int (2 : Int32)), .val (.int (3 : Int32)), .val (.ref n2), .val (.int bv2), .val (.int (2 : Int32)), s7]) X610 hx (hb hby d10_63) rfl (by decide) rfl ?_
            refine E.goto (q := 7) X610 hx (hb hby d10_66) ?_
            have hst : own_st C2 (2 : Int32) = (2 : Int32) := by rw [hC2]; simp [own_st, own_bi, own_bd, hc611, hc612, hc613, hc614]
            exact JN3_2 T610 (.val (.ref n2)) (.val (.int bv2)) (.val (.int (2 : Int32))) s7 X610 e610 (Or.inr ⟨_, rfl, rfl⟩) (Or.inr ⟨_, rfl, rfl⟩) (Or.inr ⟨_, rfl, rfl⟩) hs7 (hR.trans (congrArg (own_fold [C3, C4, C5, C6, C7]) hst))
          · refine E.icmpN (q := 54) X610 hx (hb hby d10_51) (XT.ii_lt_f hc614) ?_
            refine E.iload (q := 56) X610 hx (hb hby d10_54) rfl ?_
            refine E.istoreN (q := 57) (l' := #[.val (.ref oa), .val (.ref ob), .val (.int (1 : Int32)), .val (.int (2 : Int32)), .val (.ref n2), .val (.int bv2), .val (.int (1 : Int32)), s7]) X610 hx (hb hby d10_56) rfl ?_
            refine E.iinc (q := 60) (v := (2 : Int32)) (l' := #[.val (.ref oa), .val (.ref ob), .val (.int (1 : Int32)), .val (.int (2 : Int32)), .val (.ref n2), .val (.int bv2), .val (.int (2 : Int32)), s7]) X610 hx (hb hby d10_57) rfl (by decide) rfl ?_
            refine E.goto (q := 30) X610 hx (hb hby d10_60) ?_
            refine E.iload (q := 32) X610 hx (hb hby d10_30) rfl ?_
            refine E.iloadN (q := 33) X610 hx (hb hby d10_32) rfl ?_
            refine E.icmpY (q := 63) X610 hx (hb hby d10_33) (XT.ii_ge_t (by decide)) ?_
            refine E.iinc (q := 66) (v := (3 : Int32)) (l' := #[.val (.ref oa), .val (.ref ob), .val (.int (1 : Int32)), .val (.int (3 : Int32)), .val (.ref n2), .val (.int bv2), .val (.int (2 : Int32)), s7]) X610 hx (hb hby d10_63) rfl (by decide) rfl ?_
            refine E.goto (q := 7) X610 hx (hb hby d10_66) ?_
            have hst : own_st C2 (2 : Int32) = (1 : Int32) := by rw [hC2]; simp [own_st, own_bi, own_bd, hc611, hc612, hc613, hc614]
            exact JN3_1 T610 (.val (.ref n2)) (.val (.int bv2)) (.val (.int (2 : Int32))) s7 X610 e610 (Or.inr ⟨_, rfl, rfl⟩) (Or.inr ⟨_, rfl, rfl⟩) (Or.inr ⟨_, rfl, rfl⟩) hs7 (hR.trans (congrArg (own_fold [C3, C4, C5, C6, C7]) hst))
      · refine E.icmpN (q := 54) X610 hx (hb hby d10_51) (XT.ii_lt_f hc612) ?_
        refine E.iload (q := 56) X610 hx (hb hby d10_54) rfl ?_
        refine E.istoreN (q := 57) (l' := #[.val (.ref oa), .val (.ref ob), .val (.int (0 : Int32)), .val (.int (2 : Int32)), .val (.ref n2), .val (.int bv2), .val (.int (0 : Int32)), s7]) X610 hx (hb hby d10_56) rfl ?_
        refine E.iinc (q := 60) (v := (1 : Int32)) (l' := #[.val (.ref oa), .val (.ref ob), .val (.int (0 : Int32)), .val (.int (2 : Int32)), .val (.ref n2), .val (.int bv2), .val (.int (1 : Int32)), s7]) X610 hx (hb hby d10_57) rfl (by decide) rfl ?_
        refine E.goto (q := 30) X610 hx (hb hby d10_60) ?_
        refine E.iload (q := 32) X610 hx (hb hby d10_30) rfl ?_
        refine E.iloadN (q := 33) X610 hx (hb hby d10_32) rfl ?_
        refine E.icmpY (q := 63) X610 hx (hb hby d10_33) (XT.ii_ge_t (by decide)) ?_
        refine E.iinc (q := 66) (v := (3 : Int32)) (l' := #[.val (.ref oa), .val (.ref ob), .val (.int (0 : Int32)), .val (.int (3 : Int32)), .val (.ref n2), .val (.int bv2), .val (.int (1 : Int32)), s7]) X610 hx (hb hby d10_63) rfl (by decide) rfl ?_
        refine E.goto (q := 7) X610 hx (hb hby d10_66) ?_
        have hst : own_st C2 (2 : Int32) = (0 : Int32) := by rw [hC2]; simp [own_st, own_bi, own_bd, hc611, hc612]
        exact JN3_0 T610 (.val (.ref n2)) (.val (.int bv2)) (.val (.int (1 : Int32))) s7 X610 e610 (Or.inr ⟨_, rfl, rfl⟩) (Or.inr ⟨_, rfl, rfl⟩) (Or.inr ⟨_, rfl, rfl⟩) hs7 (hR.trans (congrArg (own_fold [C3, C4, C5, C6, C7]) hst))
  have JN1_0 : ∀ (Tj : State) (s4 s5 s6 s7 : Slot), Stand p l e ({ frames := 0, cells := 0, slots := 0, locals := 0 } : Room) s m #[(.ref oa), (.ref ob)] below meth c Tj [] 0 0 → Tj.heap = h0 → (s4 = .unset ∨ ∃ w, s4 = .val w ∧ w.category = 1) → (s5 = .unset ∨ ∃ w, s5 = .val w ∧ w.category = 1) → (s6 = .unset ∨ ∃ w, s6 = .val w ∧ w.category = 1) → (s7 = .unset ∨ ∃ w, s7 = .val w ∧ w.category = 1) → own_fold [C0, C1, C2, C3, C4, C5, C6, C7] nz = own_fold [C1, C2, C3, C4, C5, C6, C7] (0 : Int32) → Ends p e below s (fun v h L => v = some (.int (own_fold [C0, C1, C2, C3, C4, C5, C6, C7] nz)) ∧ h = h0 ∧ L = []) ({ frames := 0, cells := 0, slots := 0, locals := 0 } : Room).cells ({ frames := 0, cells := 0, slots := 0, locals := 0 } : Room).slots Tj (mkF m 7 #[.val (.ref oa), .val (.ref ob), .val (.int (0 : Int32)), .val (.int (1 : Int32)), s4, s5, s6, s7] []) := by
    intro Tj s4 s5 s6 s7 Xj ej hs4 hs5 hs6 hs7 hR
    refine E.iloadN (q := 8) Xj hx (hb hby d10_7) rfl ?_
    refine Ends.getS Xj hx hZ hown (host := "") (Or.inl (hw _ (List.mem_of_getElem? (i := 14) rfl))) Via.refl ej (own_sta_keep S0 O0.1 own_ns0) (hb hby d10_8) ?_
    intro T615 X615 e615
    refine E.icmpN (q := 14) X615 hx (hb hby d10_11) (XT.ii_ge_f (by decide)) ?_
    refine E.aloadN (q := 15) X615 hx (hb hby d10_14) rfl rfl ?_
    refine Ends.getF X615 hx hZ hown (host := "") (Or.inl (hw _ (List.mem_of_getElem? (i := 26) rfl))) Via.refl e615 F_n (hb hby d10_15) ?_
    intro T616 X616 e616
    refine E.iloadN (q := 19) X616 hx (hb hby d10_18) rfl ?_
    refine Ends.ald X616 hx hZ e616 A_nA rfl (i := 1) rfl rfl (hb hby d10_19) ?_
    refine E.astore (q := 22) (l' := #[.val (.ref oa), .val (.ref ob), .val (.int (0 : Int32)), .val (.int (1 : Int32)), .val (.ref n1), s5, s6, s7]) X616 hx (hb hby d10_20) rfl (XS.store1 rfl hs4 rfl) ?_
    refine E.aloadN (q := 23) X616 hx (hb hby d10_22) rfl rfl ?_
    refine E.iloadN (q := 24) X616 hx (hb hby d10_23) rfl ?_
    refine Ends.ild X616 hx hZ e616 A_ob (i := 1) rfl rfl (hb hby d10_24) ?_
    refine E.istore (q := 27) (l' := #[.val (.ref oa), .val (.ref ob), .val (.int (0 : Int32)), .val (.int (1 : Int32)), .val (.ref n1), .val (.int bv1), s6, s7]) X616 hx (hb hby d10_25) (XS.store1 rfl hs5 rfl) ?_
    refine E.iconst (q := 28) (v := (0 : Int32)) X616 hx (hb hby d10_27) rfl ?_
    refine E.istore (q := 30) (l' := #[.val (.ref oa), .val (.ref ob), .val (.int (0 : Int32)), .val (.int (1 : Int32)), .val (.ref n1), .val (.int bv1), .val (.int (0 : Int32)), s7]) X616 hx (hb hby d10_28) (XS.store1 rfl hs6 rfl) ?_
    refine E.iload (q := 32) X616 hx (hb hby d10_30) rfl ?_
    refine E.iloadN (q := 33) X616 hx (hb hby d10_32) rfl ?_
    refine E.icmpY (q := 63) X616 hx (hb hby d10_33) (XT.ii_ge_t (by decide)) ?_
    refine E.iinc (q := 66) (v := (2 : Int32)) (l' := #[.val (.ref oa), .val (.ref ob), .val (.int (0 : Int32)), .val (.int (2 : Int32)), .val (.ref n1), .val (.int bv1), .val (.int (0 : Int32)), s7]) X616 hx (hb hby d10_63) rfl (by decide) rfl ?_
    refine E.goto (q := 7) X616 hx (hb hby d10_66) ?_
    have hst : own_st C1 (0 : Int32) = (0 : Int32) := by rw [hC1]; simp [own_st, own_bi, own_bd]
    exact JN2_0 T616 (.val (.ref n1)) (.val (.int bv1)) (.val (.int (0 : Int32))) s7 X616 e616 (Or.inr ⟨_, rfl, rfl⟩) (Or.inr ⟨_, rfl, rfl⟩) (Or.inr ⟨_, rfl, rfl⟩) hs7 (hR.trans (congrArg (own_fold [C2, C3, C4, C5, C6, C7]) hst))
  have JN1_1 : ∀ (Tj : State) (s4 s5 s6 s7 : Slot), Stand p l e ({ frames := 0, cells := 0, slots := 0, locals := 0 } : Room) s m #[(.ref oa), (.ref ob)] below meth c Tj [] 0 0 → Tj.heap = h0 → (s4 = .unset ∨ ∃ w, s4 = .val w ∧ w.category = 1) → (s5 = .unset ∨ ∃ w, s5 = .val w ∧ w.category = 1) → (s6 = .unset ∨ ∃ w, s6 = .val w ∧ w.category = 1) → (s7 = .unset ∨ ∃ w, s7 = .val w ∧ w.category = 1) → own_fold [C0, C1, C2, C3, C4, C5, C6, C7] nz = own_fold [C1, C2, C3, C4, C5, C6, C7] (1 : Int32) → Ends p e below s (fun v h L => v = some (.int (own_fold [C0, C1, C2, C3, C4, C5, C6, C7] nz)) ∧ h = h0 ∧ L = []) ({ frames := 0, cells := 0, slots := 0, locals := 0 } : Room).cells ({ frames := 0, cells := 0, slots := 0, locals := 0 } : Room).slots Tj (mkF m 7 #[.val (.ref oa), .val (.ref ob), .val (.int (1 : Int32)), .val (.int (1 : Int32)), s4, s5, s6, s7] []) := by
    intro Tj s4 s5 s6 s7 Xj ej hs4 hs5 hs6 hs7 hR
    refine E.iloadN (q := 8) Xj hx (hb hby d10_7) rfl ?_
    refine Ends.getS Xj hx hZ hown (host := "") (Or.inl (hw _ (List.mem_of_getElem? (i := 14) rfl))) Via.refl ej (own_sta_keep S0 O0.1 own_ns0) (hb hby d10_8) ?_
    intro T617 X617 e617
    refine E.icmpN (q := 14) X617 hx (hb hby d10_11) (XT.ii_ge_f (by decide)) ?_
    refine E.aloadN (q := 15) X617 hx (hb hby d10_14) rfl rfl ?_
    refine Ends.getF X617 hx hZ hown (host := "") (Or.inl (hw _ (List.mem_of_getElem? (i := 26) rfl))) Via.refl e617 F_n (hb hby d10_15) ?_
    intro T618 X618 e618
    refine E.iloadN (q := 19) X618 hx (hb hby d10_18) rfl ?_
    refine Ends.ald X618 hx hZ e618 A_nA rfl (i := 1) rfl rfl (hb hby d10_19) ?_
    refine E.astore (q := 22) (l' := #[.val (.ref oa), .val (.ref ob), .val (.int (1 : Int32)), .val (.int (1 : Int32)), .val (.ref n1), s5, s6, s7]) X618 hx (hb hby d10_20) rfl (XS.store1 rfl hs4 rfl) ?_
    refine E.aloadN (q := 23) X618 hx (hb hby d10_22) rfl rfl ?_
    refine E.iloadN (q := 24) X618 hx (hb hby d10_23) rfl ?_
    refine Ends.ild X618 hx hZ e618 A_ob (i := 1) rfl rfl (hb hby d10_24) ?_
    refine E.istore (q := 27) (l' := #[.val (.ref oa), .val (.ref ob), .val (.int (1 : Int32)), .val (.int (1 : Int32)), .val (.ref n1), .val (.int bv1), s6, s7]) X618 hx (hb hby d10_25) (XS.store1 rfl hs5 rfl) ?_
    refine E.iconst (q := 28) (v := (0 : Int32)) X618 hx (hb hby d10_27) rfl ?_
    refine E.istore (q := 30) (l' := #[.val (.ref oa), .val (.ref ob), .val (.int (1 : Int32)), .val (.int (1 : Int32)), .val (.ref n1), .val (.int bv1), .val (.int (0 : Int32)), s7]) X618 hx (hb hby d10_28) (XS.store1 rfl hs6 rfl) ?_
    refine E.iload (q := 32) X618 hx (hb hby d10_30) rfl ?_
    refine E.iloadN (q := 33) X618 hx (hb hby d10_32) rfl ?_
    refine E.icmpN (q := 36) X618 hx (hb hby d10_33) (XT.ii_ge_f (by decide)) ?_
    refine E.aload (q := 38) X618 hx (hb hby d10_36) rfl rfl ?_
    refine E.iload (q := 40) X618 hx (hb hby d10_38) rfl ?_
    refine Ends.ild X618 hx hZ e618 A_n1 (i := 0) rfl rfl (hb hby d10_40) ?_
    by_cases hc619 : x10 < (0 : Int32)
    · refine E.ifY (q := 54) X618 hx (hb hby d10_41) (XT.i0_lt_t hc619) ?_
      refine E.iload (q := 56) X618 hx (hb hby d10_54) rfl ?_
      refine E.istoreN (q := 57) (l' := #[.val (.ref oa), .val (.ref ob), .val (.int (0 : Int32)), .val (.int (1 : Int32)), .val (.ref n1), .val (.int bv1), .val (.int (0 : Int32)), s7]) X618 hx (hb hby d10_56) rfl ?_
      refine E.iinc (q := 60) (v := (1 : Int32)) (l' := #[.val (.ref oa), .val (.ref ob), .val (.int (0 : Int32)), .val (.int (1 : Int32)), .val (.ref n1), .val (.int bv1), .val (.int (1 : Int32)), s7]) X618 hx (hb hby d10_57) rfl (by decide) rfl ?_
      refine E.goto (q := 30) X618 hx (hb hby d10_60) ?_
      refine E.iload (q := 32) X618 hx (hb hby d10_30) rfl ?_
      refine E.iloadN (q := 33) X618 hx (hb hby d10_32) rfl ?_
      refine E.icmpY (q := 63) X618 hx (hb hby d10_33) (XT.ii_ge_t (by decide)) ?_
      refine E.iinc (q := 66) (v := (2 : Int32)) (l' := #[.val (.ref oa), .val (.ref ob), .val (.int (0 : Int32)), .val (.int (2 : Int32)), .val (.ref n1), .val (.int bv1), .val (.int (1 : Int32)), s7]) X618 hx (hb hby d10_63) rfl (by decide) rfl ?_
      refine E.goto (q := 7) X618 hx (hb hby d10_66) ?_
      have hst : own_st C1 (1 : Int32) = (0 : Int32) := by rw [hC1]; simp [own_st, own_bi, own_bd, hc619]
      exact JN2_0 T618 (.val (.ref n1)) (.val (.int bv1)) (.val (.int (1 : Int32))) s7 X618 e618 (Or.inr ⟨_, rfl, rfl⟩) (Or.inr ⟨_, rfl, rfl⟩) (Or.inr ⟨_, rfl, rfl⟩) hs7 (hR.trans (congrArg (own_fold [C2, C3, C4, C5, C6, C7]) hst))
    · refine E.ifN (q := 44) X618 hx (hb hby d10_41) (XT.i0_lt_f hc619) ?_
      refine E.aload (q := 46) X618 hx (hb hby d10_44) rfl rfl ?_
      refine E.iload (q := 48) X618 hx (hb hby d10_46) rfl ?_
      refine Ends.ild X618 hx hZ e618 A_n1 (i := 0) rfl rfl (hb hby d10_48) ?_
      refine E.iload (q := 51) X618 hx (hb hby d10_49) rfl ?_
      by_cases hc620 : x10 < bv1
      · refine E.icmpY (q := 57) X618 hx (hb hby d10_51) (XT.ii_lt_t hc620) ?_
        refine E.iinc (q := 60) (v := (1 : Int32)) (l' := #[.val (.ref oa), .val (.ref ob), .val (.int (1 : Int32)), .val (.int (1 : Int32)), .val (.ref n1), .val (.int bv1), .val (.int (1 : Int32)), s7]) X618 hx (hb hby d10_57) rfl (by decide) rfl ?_
        refine E.goto (q := 30) X618 hx (hb hby d10_60) ?_
        refine E.iload (q := 32) X618 hx (hb hby d10_30) rfl ?_
        refine E.iloadN (q := 33) X618 hx (hb hby d10_32) rfl ?_
        refine E.icmpY (q := 63) X618 hx (hb hby d10_33) (XT.ii_ge_t (by decide)) ?_
        refine E.iinc (q := 66) (v := (2 : Int32)) (l' := #[.val (.ref oa), .val (.ref ob), .val (.int (1 : Int32)), .val (.int (2 : Int32)), .val (.ref n1), .val (.int bv1), .val (.int (1 : Int32)), s7]) X618 hx (hb hby d10_63) rfl (by decide) rfl ?_
        refine E.goto (q := 7) X618 hx (hb hby d10_66) ?_
        have hst : own_st C1 (1 : Int32) = (1 : Int32) := by rw [hC1]; simp [own_st, own_bi, own_bd, hc619, hc620]
        exact JN2_1 T618 (.val (.ref n1)) (.val (.int bv1)) (.val (.int (1 : Int32))) s7 X618 e618 (Or.inr ⟨_, rfl, rfl⟩) (Or.inr ⟨_, rfl, rfl⟩) (Or.inr ⟨_, rfl, rfl⟩) hs7 (hR.trans (congrArg (own_fold [C2, C3, C4, C5, C6, C7]) hst))
      · refine E.icmpN (q := 54) X618 hx (hb hby d10_51) (XT.ii_lt_f hc620) ?_
        refine E.iload (q := 56) X618 hx (hb hby d10_54) rfl ?_
        refine E.istoreN (q := 57) (l' := #[.val (.ref oa), .val (.ref ob), .val (.int (0 : Int32)), .val (.int (1 : Int32)), .val (.ref n1), .val (.int bv1), .val (.int (0 : Int32)), s7]) X618 hx (hb hby d10_56) rfl ?_
        refine E.iinc (q := 60) (v := (1 : Int32)) (l' := #[.val (.ref oa), .val (.ref ob), .val (.int (0 : Int32)), .val (.int (1 : Int32)), .val (.ref n1), .val (.int bv1), .val (.int (1 : Int32)), s7]) X618 hx (hb hby d10_57) rfl (by decide) rfl ?_
        refine E.goto (q := 30) X618 hx (hb hby d10_60) ?_
        refine E.iload (q := 32) X618 hx (hb hby d10_30) rfl ?_
        refine E.iloadN (q := 33) X618 hx (hb hby d10_32) rfl ?_
        refine E.icmpY (q := 63) X618 hx (hb hby d10_33) (XT.ii_ge_t (by decide)) ?_
        refine E.iinc (q := 66) (v := (2 : Int32)) (l' := #[.val (.ref oa), .val (.ref ob), .val (.int (0 : Int32)), .val (.int (2 : Int32)), .val (.ref n1), .val (.int bv1), .val (.int (1 : Int32)), s7]) X618 hx (hb hby d10_63) rfl (by decide) rfl ?_
        refine E.goto (q := 7) X618 hx (hb hby d10_66) ?_
        have hst : own_st C1 (1 : Int32) = (0 : Int32) := by rw [hC1]; simp [own_st, own_bi, own_bd, hc619, hc620]
        exact JN2_0 T618 (.val (.ref n1)) (.val (.int bv1)) (.val (.int (1 : Int32))) s7 X618 e618 (Or.inr ⟨_, rfl, rfl⟩) (Or.inr ⟨_, rfl, rfl⟩) (Or.inr ⟨_, rfl, rfl⟩) hs7 (hR.trans (congrArg (own_fold [C2, C3, C4, C5, C6, C7]) hst))
  have JN1_2 : ∀ (Tj : State) (s4 s5 s6 s7 : Slot), Stand p l e ({ frames := 0, cells := 0, slots := 0, locals := 0 } : Room) s m #[(.ref oa), (.ref ob)] below meth c Tj [] 0 0 → Tj.heap = h0 → (s4 = .unset ∨ ∃ w, s4 = .val w ∧ w.category = 1) → (s5 = .unset ∨ ∃ w, s5 = .val w ∧ w.category = 1) → (s6 = .unset ∨ ∃ w, s6 = .val w ∧ w.category = 1) → (s7 = .unset ∨ ∃ w, s7 = .val w ∧ w.category = 1) → own_fold [C0, C1, C2, C3, C4, C5, C6, C7] nz = own_fold [C1, C2, C3, C4, C5, C6, C7] (2 : Int32) → Ends p e below s (fun v h L => v = some (.int (own_fold [C0, C1, C2, C3, C4, C5, C6, C7] nz)) ∧ h = h0 ∧ L = []) ({ frames := 0, cells := 0, slots := 0, locals := 0 } : Room).cells ({ frames := 0, cells := 0, slots := 0, locals := 0 } : Room).slots Tj (mkF m 7 #[.val (.ref oa), .val (.ref ob), .val (.int (2 : Int32)), .val (.int (1 : Int32)), s4, s5, s6, s7] []) := by
    intro Tj s4 s5 s6 s7 Xj ej hs4 hs5 hs6 hs7 hR
    refine E.iloadN (q := 8) Xj hx (hb hby d10_7) rfl ?_
    refine Ends.getS Xj hx hZ hown (host := "") (Or.inl (hw _ (List.mem_of_getElem? (i := 14) rfl))) Via.refl ej (own_sta_keep S0 O0.1 own_ns0) (hb hby d10_8) ?_
    intro T621 X621 e621
    refine E.icmpN (q := 14) X621 hx (hb hby d10_11) (XT.ii_ge_f (by decide)) ?_
    refine E.aloadN (q := 15) X621 hx (hb hby d10_14) rfl rfl ?_
    refine Ends.getF X621 hx hZ hown (host := "") (Or.inl (hw _ (List.mem_of_getElem? (i := 26) rfl))) Via.refl e621 F_n (hb hby d10_15) ?_
    intro T622 X622 e622
    refine E.iloadN (q := 19) X622 hx (hb hby d10_18) rfl ?_
    refine Ends.ald X622 hx hZ e622 A_nA rfl (i := 1) rfl rfl (hb hby d10_19) ?_
    refine E.astore (q := 22) (l' := #[.val (.ref oa), .val (.ref ob), .val (.int (2 : Int32)), .val (.int (1 : Int32)), .val (.ref n1), s5, s6, s7]) X622 hx (hb hby d10_20) rfl (XS.store1 rfl hs4 rfl) ?_
    refine E.aloadN (q := 23) X622 hx (hb hby d10_22) rfl rfl ?_
    refine E.iloadN (q := 24) X622 hx (hb hby d10_23) rfl ?_
    refine Ends.ild X622 hx hZ e622 A_ob (i := 1) rfl rfl (hb hby d10_24) ?_
    refine E.istore (q := 27) (l' := #[.val (.ref oa), .val (.ref ob), .val (.int (2 : Int32)), .val (.int (1 : Int32)), .val (.ref n1), .val (.int bv1), s6, s7]) X622 hx (hb hby d10_25) (XS.store1 rfl hs5 rfl) ?_
    refine E.iconst (q := 28) (v := (0 : Int32)) X622 hx (hb hby d10_27) rfl ?_
    refine E.istore (q := 30) (l' := #[.val (.ref oa), .val (.ref ob), .val (.int (2 : Int32)), .val (.int (1 : Int32)), .val (.ref n1), .val (.int bv1), .val (.int (0 : Int32)), s7]) X622 hx (hb hby d10_28) (XS.store1 rfl hs6 rfl) ?_
    refine E.iload (q := 32) X622 hx (hb hby d10_30) rfl ?_
    refine E.iloadN (q := 33) X622 hx (hb hby d10_32) rfl ?_
    refine E.icmpN (q := 36) X622 hx (hb hby d10_33) (XT.ii_ge_f (by decide)) ?_
    refine E.aload (q := 38) X622 hx (hb hby d10_36) rfl rfl ?_
    refine E.iload (q := 40) X622 hx (hb hby d10_38) rfl ?_
    refine Ends.ild X622 hx hZ e622 A_n1 (i := 0) rfl rfl (hb hby d10_40) ?_
    by_cases hc623 : x10 < (0 : Int32)
    · refine E.ifY (q := 54) X622 hx (hb hby d10_41) (XT.i0_lt_t hc623) ?_
      refine E.iload (q := 56) X622 hx (hb hby d10_54) rfl ?_
      refine E.istoreN (q := 57) (l' := #[.val (.ref oa), .val (.ref ob), .val (.int (0 : Int32)), .val (.int (1 : Int32)), .val (.ref n1), .val (.int bv1), .val (.int (0 : Int32)), s7]) X622 hx (hb hby d10_56) rfl ?_
      refine E.iinc (q := 60) (v := (1 : Int32)) (l' := #[.val (.ref oa), .val (.ref ob), .val (.int (0 : Int32)), .val (.int (1 : Int32)), .val (.ref n1), .val (.int bv1), .val (.int (1 : Int32)), s7]) X622 hx (hb hby d10_57) rfl (by decide) rfl ?_
      refine E.goto (q := 30) X622 hx (hb hby d10_60) ?_
      refine E.iload (q := 32) X622 hx (hb hby d10_30) rfl ?_
      refine E.iloadN (q := 33) X622 hx (hb hby d10_32) rfl ?_
      refine E.icmpY (q := 63) X622 hx (hb hby d10_33) (XT.ii_ge_t (by decide)) ?_
      refine E.iinc (q := 66) (v := (2 : Int32)) (l' := #[.val (.ref oa), .val (.ref ob), .val (.int (0 : Int32)), .val (.int (2 : Int32)), .val (.ref n1), .val (.int bv1), .val (.int (1 : Int32)), s7]) X622 hx (hb hby d10_63) rfl (by decide) rfl ?_
      refine E.goto (q := 7) X622 hx (hb hby d10_66) ?_
      have hst : own_st C1 (2 : Int32) = (0 : Int32) := by rw [hC1]; simp [own_st, own_bi, own_bd, hc623]
      exact JN2_0 T622 (.val (.ref n1)) (.val (.int bv1)) (.val (.int (1 : Int32))) s7 X622 e622 (Or.inr ⟨_, rfl, rfl⟩) (Or.inr ⟨_, rfl, rfl⟩) (Or.inr ⟨_, rfl, rfl⟩) hs7 (hR.trans (congrArg (own_fold [C2, C3, C4, C5, C6, C7]) hst))
    · refine E.ifN (q := 44) X622 hx (hb hby d10_41) (XT.i0_lt_f hc623) ?_
      refine E.aload (q := 46) X622 hx (hb hby d10_44) rfl rfl ?_
      refine E.iload (q := 48) X622 hx (hb hby d10_46) rfl ?_
      refine Ends.ild X622 hx hZ e622 A_n1 (i := 0) rfl rfl (hb hby d10_48) ?_
      refine E.iload (q := 51) X622 hx (hb hby d10_49) rfl ?_
      by_cases hc624 : x10 < bv1
      · refine E.icmpY (q := 57) X622 hx (hb hby d10_51) (XT.ii_lt_t hc624) ?_
        refine E.iinc (q := 60) (v := (1 : Int32)) (l' := #[.val (.ref oa), .val (.ref ob), .val (.int (2 : Int32)), .val (.int (1 : Int32)), .val (.ref n1), .val (.int bv1), .val (.int (1 : Int32)), s7]) X622 hx (hb hby d10_57) rfl (by decide) rfl ?_
        refine E.goto (q := 30) X622 hx (hb hby d10_60) ?_
        refine E.iload (q := 32) X622 hx (hb hby d10_30) rfl ?_
        refine E.iloadN (q := 33) X622 hx (hb hby d10_32) rfl ?_
        refine E.icmpN (q := 36) X622 hx (hb hby d10_33) (XT.ii_ge_f (by decide)) ?_
        refine E.aload (q := 38) X622 hx (hb hby d10_36) rfl rfl ?_
        refine E.iload (q := 40) X622 hx (hb hby d10_38) rfl ?_
        refine Ends.ild X622 hx hZ e622 A_n1 (i := 1) rfl rfl (hb hby d10_40) ?_
        by_cases hc625 : x11 < (0 : Int32)
        · refine E.ifY (q := 54) X622 hx (hb hby d10_41) (XT.i0_lt_t hc625) ?_
          refine E.iload (q := 56) X622 hx (hb hby d10_54) rfl ?_
          refine E.istoreN (q := 57) (l' := #[.val (.ref oa), .val (.ref ob), .val (.int (1 : Int32)), .val (.int (1 : Int32)), .val (.ref n1), .val (.int bv1), .val (.int (1 : Int32)), s7]) X622 hx (hb hby d10_56) rfl ?_
          refine E.iinc (q := 60) (v := (2 : Int32)) (l' := #[.val (.ref oa), .val (.ref ob), .val (.int (1 : Int32)), .val (.int (1 : Int32)), .val (.ref n1), .val (.int bv1), .val (.int (2 : Int32)), s7]) X622 hx (hb hby d10_57) rfl (by decide) rfl ?_
          refine E.goto (q := 30) X622 hx (hb hby d10_60) ?_
          refine E.iload (q := 32) X622 hx (hb hby d10_30) rfl ?_
          refine E.iloadN (q := 33) X622 hx (hb hby d10_32) rfl ?_
          refine E.icmpY (q := 63) X622 hx (hb hby d10_33) (XT.ii_ge_t (by decide)) ?_
          refine E.iinc (q := 66) (v := (2 : Int32)) (l' := #[.val (.ref oa), .val (.ref ob), .val (.int (1 : Int32)), .val (.int (2 : Int32)), .val (.ref n1), .val (.int bv1), .val (.int (2 : Int32)), s7]) X622 hx (hb hby d10_63) rfl (by decide) rfl ?_
          refine E.goto (q := 7) X622 hx (hb hby d10_66) ?_
          have hst : own_st C1 (2 : Int32) = (1 : Int32) := by rw [hC1]; simp [own_st, own_bi, own_bd, hc623, hc624, hc625]
          exact JN2_1 T622 (.val (.ref n1)) (.val (.int bv1)) (.val (.int (2 : Int32))) s7 X622 e622 (Or.inr ⟨_, rfl, rfl⟩) (Or.inr ⟨_, rfl, rfl⟩) (Or.inr ⟨_, rfl, rfl⟩) hs7 (hR.trans (congrArg (own_fold [C2, C3, C4, C5, C6, C7]) hst))
        · refine E.ifN (q := 44) X622 hx (hb hby d10_41) (XT.i0_lt_f hc625) ?_
          refine E.aload (q := 46) X622 hx (hb hby d10_44) rfl rfl ?_
          refine E.iload (q := 48) X622 hx (hb hby d10_46) rfl ?_
          refine Ends.ild X622 hx hZ e622 A_n1 (i := 1) rfl rfl (hb hby d10_48) ?_
          refine E.iload (q := 51) X622 hx (hb hby d10_49) rfl ?_
          by_cases hc626 : x11 < bv1
          · refine E.icmpY (q := 57) X622 hx (hb hby d10_51) (XT.ii_lt_t hc626) ?_
            refine E.iinc (q := 60) (v := (2 : Int32)) (l' := #[.val (.ref oa), .val (.ref ob), .val (.int (2 : Int32)), .val (.int (1 : Int32)), .val (.ref n1), .val (.int bv1), .val (.int (2 : Int32)), s7]) X622 hx (hb hby d10_57) rfl (by decide) rfl ?_
            refine E.goto (q := 30) X622 hx (hb hby d10_60) ?_
            refine E.iload (q := 32) X622 hx (hb hby d10_30) rfl ?_
            refine E.iloadN (q := 33) X622 hx (hb hby d10_32) rfl ?_
            refine E.icmpY (q := 63) X622 hx (hb hby d10_33) (XT.ii_ge_t (by decide)) ?_
            refine E.iinc (q := 66) (v := (2 : Int32)) (l' := #[.val (.ref oa), .val (.ref ob), .val (.int (2 : Int32)), .val (.int (2 : Int32)), .val (.ref n1), .val (.int bv1), .val (.int (2 : Int32)), s7]) X622 hx (hb hby d10_63) rfl (by decide) rfl ?_
            refine E.goto (q := 7) X622 hx (hb hby d10_66) ?_
            have hst : own_st C1 (2 : Int32) = (2 : Int32) := by rw [hC1]; simp [own_st, own_bi, own_bd, hc623, hc624, hc625, hc626]
            exact JN2_2 T622 (.val (.ref n1)) (.val (.int bv1)) (.val (.int (2 : Int32))) s7 X622 e622 (Or.inr ⟨_, rfl, rfl⟩) (Or.inr ⟨_, rfl, rfl⟩) (Or.inr ⟨_, rfl, rfl⟩) hs7 (hR.trans (congrArg (own_fold [C2, C3, C4, C5, C6, C7]) hst))
          · refine E.icmpN (q := 54) X622 hx (hb hby d10_51) (XT.ii_lt_f hc626) ?_
            refine E.iload (q := 56) X622 hx (hb hby d10_54) rfl ?_
            refine E.istoreN (q := 57) (l' := #[.val (.ref oa), .val (.ref ob), .val (.int (1 : Int32)), .val (.int (1 : Int32)), .val (.ref n1), .val (.int bv1), .val (.int (1 : Int32)), s7]) X622 hx (hb hby d10_56) rfl ?_
            refine E.iinc (q := 60) (v := (2 : Int32)) (l' := #[.val (.ref oa), .val (.ref ob), .val (.int (1 : Int32)), .val (.int (1 : Int32)), .val (.ref n1), .val (.int bv1), .val (.int (2 : Int32)), s7]) X622 hx (hb hby d10_57) rfl (by decide) rfl ?_
            refine E.goto (q := 30) X622 hx (hb hby d10_60) ?_
            refine E.iload (q := 32) X622 hx (hb hby d10_30) rfl ?_
            refine E.iloadN (q := 33) X622 hx (hb hby d10_32) rfl ?_
            refine E.icmpY (q := 63) X622 hx (hb hby d10_33) (XT.ii_ge_t (by decide)) ?_
            refine E.iinc (q := 66) (v := (2 : Int32)) (l' := #[.val (.ref oa), .val (.ref ob), .val (.int (1 : Int32)), .val (.int (2 : Int32)), .val (.ref n1), .val (.int bv1), .val (.int (2 : Int32)), s7]) X622 hx (hb hby d10_63) rfl (by decide) rfl ?_
            refine E.goto (q := 7) X622 hx (hb hby d10_66) ?_
            have hst : own_st C1 (2 : Int32) = (1 : Int32) := by rw [hC1]; simp [own_st, own_bi, own_bd, hc623, hc624, hc625, hc626]
            exact JN2_1 T622 (.val (.ref n1)) (.val (.int bv1)) (.val (.int (2 : Int32))) s7 X622 e622 (Or.inr ⟨_, rfl, rfl⟩) (Or.inr ⟨_, rfl, rfl⟩) (Or.inr ⟨_, rfl, rfl⟩) hs7 (hR.trans (congrArg (own_fold [C2, C3, C4, C5, C6, C7]) hst))
      · refine E.icmpN (q := 54) X622 hx (hb hby d10_51) (XT.ii_lt_f hc624) ?_
        refine E.iload (q := 56) X622 hx (hb hby d10_54) rfl ?_
        refine E.istoreN (q := 57) (l' := #[.val (.ref oa), .val (.ref ob), .val (.int (0 : Int32)), .val (.int (1 : Int32)), .val (.ref n1), .val (.int bv1), .val (.int (0 : Int32)), s7]) X622 hx (hb hby d10_56) rfl ?_
        refine E.iinc (q := 60) (v := (1 : Int32)) (l' := #[.val (.ref oa), .val (.ref ob), .val (.int (0 : Int32)), .val (.int (1 : Int32)), .val (.ref n1), .val (.int bv1), .val (.int (1 : Int32)), s7]) X622 hx (hb hby d10_57) rfl (by decide) rfl ?_
        refine E.goto (q := 30) X622 hx (hb hby d10_60) ?_
        refine E.iload (q := 32) X622 hx (hb hby d10_30) rfl ?_
        refine E.iloadN (q := 33) X622 hx (hb hby d10_32) rfl ?_
        refine E.icmpY (q := 63) X622 hx (hb hby d10_33) (XT.ii_ge_t (by decide)) ?_
        refine E.iinc (q := 66) (v := (2 : Int32)) (l' := #[.val (.ref oa), .val (.ref ob), .val (.int (0 : Int32)), .val (.int (2 : Int32)), .val (.ref n1), .val (.int bv1), .val (.int (1 : Int32)), s7]) X622 hx (hb hby d10_63) rfl (by decide) rfl ?_
        refine E.goto (q := 7) X622 hx (hb hby d10_66) ?_
        have hst : own_st C1 (2 : Int32) = (0 : Int32) := by rw [hC1]; simp [own_st, own_bi, own_bd, hc623, hc624]
        exact JN2_0 T622 (.val (.ref n1)) (.val (.int bv1)) (.val (.int (1 : Int32))) s7 X622 e622 (Or.inr ⟨_, rfl, rfl⟩) (Or.inr ⟨_, rfl, rfl⟩) (Or.inr ⟨_, rfl, rfl⟩) hs7 (hR.trans (congrArg (own_fold [C2, C3, C4, C5, C6, C7]) hst))
  have JN0_0 : ∀ (Tj : State) (s4 s5 s6 s7 : Slot), Stand p l e ({ frames := 0, cells := 0, slots := 0, locals := 0 } : Room) s m #[(.ref oa), (.ref ob)] below meth c Tj [] 0 0 → Tj.heap = h0 → (s4 = .unset ∨ ∃ w, s4 = .val w ∧ w.category = 1) → (s5 = .unset ∨ ∃ w, s5 = .val w ∧ w.category = 1) → (s6 = .unset ∨ ∃ w, s6 = .val w ∧ w.category = 1) → (s7 = .unset ∨ ∃ w, s7 = .val w ∧ w.category = 1) → own_fold [C0, C1, C2, C3, C4, C5, C6, C7] nz = own_fold [C0, C1, C2, C3, C4, C5, C6, C7] (0 : Int32) → Ends p e below s (fun v h L => v = some (.int (own_fold [C0, C1, C2, C3, C4, C5, C6, C7] nz)) ∧ h = h0 ∧ L = []) ({ frames := 0, cells := 0, slots := 0, locals := 0 } : Room).cells ({ frames := 0, cells := 0, slots := 0, locals := 0 } : Room).slots Tj (mkF m 7 #[.val (.ref oa), .val (.ref ob), .val (.int (0 : Int32)), .val (.int (0 : Int32)), s4, s5, s6, s7] []) := by
    intro Tj s4 s5 s6 s7 Xj ej hs4 hs5 hs6 hs7 hR
    refine E.iloadN (q := 8) Xj hx (hb hby d10_7) rfl ?_
    refine Ends.getS Xj hx hZ hown (host := "") (Or.inl (hw _ (List.mem_of_getElem? (i := 14) rfl))) Via.refl ej (own_sta_keep S0 O0.1 own_ns0) (hb hby d10_8) ?_
    intro T627 X627 e627
    refine E.icmpN (q := 14) X627 hx (hb hby d10_11) (XT.ii_ge_f (by decide)) ?_
    refine E.aloadN (q := 15) X627 hx (hb hby d10_14) rfl rfl ?_
    refine Ends.getF X627 hx hZ hown (host := "") (Or.inl (hw _ (List.mem_of_getElem? (i := 26) rfl))) Via.refl e627 F_n (hb hby d10_15) ?_
    intro T628 X628 e628
    refine E.iloadN (q := 19) X628 hx (hb hby d10_18) rfl ?_
    refine Ends.ald X628 hx hZ e628 A_nA rfl (i := 0) rfl rfl (hb hby d10_19) ?_
    refine E.astore (q := 22) (l' := #[.val (.ref oa), .val (.ref ob), .val (.int (0 : Int32)), .val (.int (0 : Int32)), .val (.ref n0), s5, s6, s7]) X628 hx (hb hby d10_20) rfl (XS.store1 rfl hs4 rfl) ?_
    refine E.aloadN (q := 23) X628 hx (hb hby d10_22) rfl rfl ?_
    refine E.iloadN (q := 24) X628 hx (hb hby d10_23) rfl ?_
    refine Ends.ild X628 hx hZ e628 A_ob (i := 0) rfl rfl (hb hby d10_24) ?_
    refine E.istore (q := 27) (l' := #[.val (.ref oa), .val (.ref ob), .val (.int (0 : Int32)), .val (.int (0 : Int32)), .val (.ref n0), .val (.int bv0), s6, s7]) X628 hx (hb hby d10_25) (XS.store1 rfl hs5 rfl) ?_
    refine E.iconst (q := 28) (v := (0 : Int32)) X628 hx (hb hby d10_27) rfl ?_
    refine E.istore (q := 30) (l' := #[.val (.ref oa), .val (.ref ob), .val (.int (0 : Int32)), .val (.int (0 : Int32)), .val (.ref n0), .val (.int bv0), .val (.int (0 : Int32)), s7]) X628 hx (hb hby d10_28) (XS.store1 rfl hs6 rfl) ?_
    refine E.iload (q := 32) X628 hx (hb hby d10_30) rfl ?_
    refine E.iloadN (q := 33) X628 hx (hb hby d10_32) rfl ?_
    refine E.icmpY (q := 63) X628 hx (hb hby d10_33) (XT.ii_ge_t (by decide)) ?_
    refine E.iinc (q := 66) (v := (1 : Int32)) (l' := #[.val (.ref oa), .val (.ref ob), .val (.int (0 : Int32)), .val (.int (1 : Int32)), .val (.ref n0), .val (.int bv0), .val (.int (0 : Int32)), s7]) X628 hx (hb hby d10_63) rfl (by decide) rfl ?_
    refine E.goto (q := 7) X628 hx (hb hby d10_66) ?_
    have hst : own_st C0 (0 : Int32) = (0 : Int32) := by rw [hC0]; simp [own_st, own_bi, own_bd]
    exact JN1_0 T628 (.val (.ref n0)) (.val (.int bv0)) (.val (.int (0 : Int32))) s7 X628 e628 (Or.inr ⟨_, rfl, rfl⟩) (Or.inr ⟨_, rfl, rfl⟩) (Or.inr ⟨_, rfl, rfl⟩) hs7 (hR.trans (congrArg (own_fold [C1, C2, C3, C4, C5, C6, C7]) hst))
  have JN0_1 : ∀ (Tj : State) (s4 s5 s6 s7 : Slot), Stand p l e ({ frames := 0, cells := 0, slots := 0, locals := 0 } : Room) s m #[(.ref oa), (.ref ob)] below meth c Tj [] 0 0 → Tj.heap = h0 → (s4 = .unset ∨ ∃ w, s4 = .val w ∧ w.category = 1) → (s5 = .unset ∨ ∃ w, s5 = .val w ∧ w.category = 1) → (s6 = .unset ∨ ∃ w, s6 = .val w ∧ w.category = 1) → (s7 = .unset ∨ ∃ w, s7 = .val w ∧ w.category = 1) → own_fold [C0, C1, C2, C3, C4, C5, C6, C7] nz = own_fold [C0, C1, C2, C3, C4, C5, C6, C7] (1 : Int32) → Ends p e below s (fun v h L => v = some (.int (own_fold [C0, C1, C2, C3, C4, C5, C6, C7] nz)) ∧ h = h0 ∧ L = []) ({ frames := 0, cells := 0, slots := 0, locals := 0 } : Room).cells ({ frames := 0, cells := 0, slots := 0, locals := 0 } : Room).slots Tj (mkF m 7 #[.val (.ref oa), .val (.ref ob), .val (.int (1 : Int32)), .val (.int (0 : Int32)), s4, s5, s6, s7] []) := by
    intro Tj s4 s5 s6 s7 Xj ej hs4 hs5 hs6 hs7 hR
    refine E.iloadN (q := 8) Xj hx (hb hby d10_7) rfl ?_
    refine Ends.getS Xj hx hZ hown (host := "") (Or.inl (hw _ (List.mem_of_getElem? (i := 14) rfl))) Via.refl ej (own_sta_keep S0 O0.1 own_ns0) (hb hby d10_8) ?_
    intro T629 X629 e629
    refine E.icmpN (q := 14) X629 hx (hb hby d10_11) (XT.ii_ge_f (by decide)) ?_
    refine E.aloadN (q := 15) X629 hx (hb hby d10_14) rfl rfl ?_
    refine Ends.getF X629 hx hZ hown (host := "") (Or.inl (hw _ (List.mem_of_getElem? (i := 26) rfl))) Via.refl e629 F_n (hb hby d10_15) ?_
    intro T630 X630 e630
    refine E.iloadN (q := 19) X630 hx (hb hby d10_18) rfl ?_
    refine Ends.ald X630 hx hZ e630 A_nA rfl (i := 0) rfl rfl (hb hby d10_19) ?_
    refine E.astore (q := 22) (l' := #[.val (.ref oa), .val (.ref ob), .val (.int (1 : Int32)), .val (.int (0 : Int32)), .val (.ref n0), s5, s6, s7]) X630 hx (hb hby d10_20) rfl (XS.store1 rfl hs4 rfl) ?_
    refine E.aloadN (q := 23) X630 hx (hb hby d10_22) rfl rfl ?_
    refine E.iloadN (q := 24) X630 hx (hb hby d10_23) rfl ?_
    refine Ends.ild X630 hx hZ e630 A_ob (i := 0) rfl rfl (hb hby d10_24) ?_
    refine E.istore (q := 27) (l' := #[.val (.ref oa), .val (.ref ob), .val (.int (1 : Int32)), .val (.int (0 : Int32)), .val (.ref n0), .val (.int bv0), s6, s7]) X630 hx (hb hby d10_25) (XS.store1 rfl hs5 rfl) ?_
    refine E.iconst (q := 28) (v := (0 : Int32)) X630 hx (hb hby d10_27) rfl ?_
    refine E.istore (q := 30) (l' := #[.val (.ref oa), .val (.ref ob), .val (.int (1 : Int32)), .val (.int (0 : Int32)), .val (.ref n0), .val (.int bv0), .val (.int (0 : Int32)), s7]) X630 hx (hb hby d10_28) (XS.store1 rfl hs6 rfl) ?_
    refine E.iload (q := 32) X630 hx (hb hby d10_30) rfl ?_
    refine E.iloadN (q := 33) X630 hx (hb hby d10_32) rfl ?_
    refine E.icmpN (q := 36) X630 hx (hb hby d10_33) (XT.ii_ge_f (by decide)) ?_
    refine E.aload (q := 38) X630 hx (hb hby d10_36) rfl rfl ?_
    refine E.iload (q := 40) X630 hx (hb hby d10_38) rfl ?_
    refine Ends.ild X630 hx hZ e630 A_n0 (i := 0) rfl rfl (hb hby d10_40) ?_
    by_cases hc631 : x00 < (0 : Int32)
    · refine E.ifY (q := 54) X630 hx (hb hby d10_41) (XT.i0_lt_t hc631) ?_
      refine E.iload (q := 56) X630 hx (hb hby d10_54) rfl ?_
      refine E.istoreN (q := 57) (l' := #[.val (.ref oa), .val (.ref ob), .val (.int (0 : Int32)), .val (.int (0 : Int32)), .val (.ref n0), .val (.int bv0), .val (.int (0 : Int32)), s7]) X630 hx (hb hby d10_56) rfl ?_
      refine E.iinc (q := 60) (v := (1 : Int32)) (l' := #[.val (.ref oa), .val (.ref ob), .val (.int (0 : Int32)), .val (.int (0 : Int32)), .val (.ref n0), .val (.int bv0), .val (.int (1 : Int32)), s7]) X630 hx (hb hby d10_57) rfl (by decide) rfl ?_
      refine E.goto (q := 30) X630 hx (hb hby d10_60) ?_
      refine E.iload (q := 32) X630 hx (hb hby d10_30) rfl ?_
      refine E.iloadN (q := 33) X630 hx (hb hby d10_32) rfl ?_
      refine E.icmpY (q := 63) X630 hx (hb hby d10_33) (XT.ii_ge_t (by decide)) ?_
      refine E.iinc (q := 66) (v := (1 : Int32)) (l' := #[.val (.ref oa), .val (.ref ob), .val (.int (0 : Int32)), .val (.int (1 : Int32)), .val (.ref n0), .val (.int bv0), .val (.int (1 : Int32)), s7]) X630 hx (hb hby d10_63) rfl (by decide) rfl ?_
      refine E.goto (q := 7) X630 hx (hb hby d10_66) ?_
      have hst : own_st C0 (1 : Int32) = (0 : Int32) := by rw [hC0]; simp [own_st, own_bi, own_bd, hc631]
      exact JN1_0 T630 (.val (.ref n0)) (.val (.int bv0)) (.val (.int (1 : Int32))) s7 X630 e630 (Or.inr ⟨_, rfl, rfl⟩) (Or.inr ⟨_, rfl, rfl⟩) (Or.inr ⟨_, rfl, rfl⟩) hs7 (hR.trans (congrArg (own_fold [C1, C2, C3, C4, C5, C6, C7]) hst))
    · refine E.ifN (q := 44) X630 hx (hb hby d10_41) (XT.i0_lt_f hc631) ?_
      refine E.aload (q := 46) X630 hx (hb hby d10_44) rfl rfl ?_
      refine E.iload (q := 48) X630 hx (hb hby d10_46) rfl ?_
      refine Ends.ild X630 hx hZ e630 A_n0 (i := 0) rfl rfl (hb hby d10_48) ?_
      refine E.iload (q := 51) X630 hx (hb hby d10_49) rfl ?_
      by_cases hc632 : x00 < bv0
      · refine E.icmpY (q := 57) X630 hx (hb hby d10_51) (XT.ii_lt_t hc632) ?_
        refine E.iinc (q := 60) (v := (1 : Int32)) (l' := #[.val (.ref oa), .val (.ref ob), .val (.int (1 : Int32)), .val (.int (0 : Int32)), .val (.ref n0), .val (.int bv0), .val (.int (1 : Int32)), s7]) X630 hx (hb hby d10_57) rfl (by decide) rfl ?_
        refine E.goto (q := 30) X630 hx (hb hby d10_60) ?_
        refine E.iload (q := 32) X630 hx (hb hby d10_30) rfl ?_
        refine E.iloadN (q := 33) X630 hx (hb hby d10_32) rfl ?_
        refine E.icmpY (q := 63) X630 hx (hb hby d10_33) (XT.ii_ge_t (by decide)) ?_
        refine E.iinc (q := 66) (v := (1 : Int32)) (l' := #[.val (.ref oa), .val (.ref ob), .val (.int (1 : Int32)), .val (.int (1 : Int32)), .val (.ref n0), .val (.int bv0), .val (.int (1 : Int32)), s7]) X630 hx (hb hby d10_63) rfl (by decide) rfl ?_
        refine E.goto (q := 7) X630 hx (hb hby d10_66) ?_
        have hst : own_st C0 (1 : Int32) = (1 : Int32) := by rw [hC0]; simp [own_st, own_bi, own_bd, hc631, hc632]
        exact JN1_1 T630 (.val (.ref n0)) (.val (.int bv0)) (.val (.int (1 : Int32))) s7 X630 e630 (Or.inr ⟨_, rfl, rfl⟩) (Or.inr ⟨_, rfl, rfl⟩) (Or.inr ⟨_, rfl, rfl⟩) hs7 (hR.trans (congrArg (own_fold [C1, C2, C3, C4, C5, C6, C7]) hst))
      · refine E.icmpN (q := 54) X630 hx (hb hby d10_51) (XT.ii_lt_f hc632) ?_
        refine E.iload (q := 56) X630 hx (hb hby d10_54) rfl ?_
        refine E.istoreN (q := 57) (l' := #[.val (.ref oa), .val (.ref ob), .val (.int (0 : Int32)), .val (.int (0 : Int32)), .val (.ref n0), .val (.int bv0), .val (.int (0 : Int32)), s7]) X630 hx (hb hby d10_56) rfl ?_
        refine E.iinc (q := 60) (v := (1 : Int32)) (l' := #[.val (.ref oa), .val (.ref ob), .val (.int (0 : Int32)), .val (.int (0 : Int32)), .val (.ref n0), .val (.int bv0), .val (.int (1 : Int32)), s7]) X630 hx (hb hby d10_57) rfl (by decide) rfl ?_
        refine E.goto (q := 30) X630 hx (hb hby d10_60) ?_
        refine E.iload (q := 32) X630 hx (hb hby d10_30) rfl ?_
        refine E.iloadN (q := 33) X630 hx (hb hby d10_32) rfl ?_
        refine E.icmpY (q := 63) X630 hx (hb hby d10_33) (XT.ii_ge_t (by decide)) ?_
        refine E.iinc (q := 66) (v := (1 : Int32)) (l' := #[.val (.ref oa), .val (.ref ob), .val (.int (0 : Int32)), .val (.int (1 : Int32)), .val (.ref n0), .val (.int bv0), .val (.int (1 : Int32)), s7]) X630 hx (hb hby d10_63) rfl (by decide) rfl ?_
        refine E.goto (q := 7) X630 hx (hb hby d10_66) ?_
        have hst : own_st C0 (1 : Int32) = (0 : Int32) := by rw [hC0]; simp [own_st, own_bi, own_bd, hc631, hc632]
        exact JN1_0 T630 (.val (.ref n0)) (.val (.int bv0)) (.val (.int (1 : Int32))) s7 X630 e630 (Or.inr ⟨_, rfl, rfl⟩) (Or.inr ⟨_, rfl, rfl⟩) (Or.inr ⟨_, rfl, rfl⟩) hs7 (hR.trans (congrArg (own_fold [C1, C2, C3, C4, C5, C6, C7]) hst))
  have JN0_2 : ∀ (Tj : State) (s4 s5 s6 s7 : Slot), Stand p l e ({ frames := 0, cells := 0, slots := 0, locals := 0 } : Room) s m #[(.ref oa), (.ref ob)] below meth c Tj [] 0 0 → Tj.heap = h0 → (s4 = .unset ∨ ∃ w, s4 = .val w ∧ w.category = 1) → (s5 = .unset ∨ ∃ w, s5 = .val w ∧ w.category = 1) → (s6 = .unset ∨ ∃ w, s6 = .val w ∧ w.category = 1) → (s7 = .unset ∨ ∃ w, s7 = .val w ∧ w.category = 1) → own_fold [C0, C1, C2, C3, C4, C5, C6, C7] nz = own_fold [C0, C1, C2, C3, C4, C5, C6, C7] (2 : Int32) → Ends p e below s (fun v h L => v = some (.int (own_fold [C0, C1, C2, C3, C4, C5, C6, C7] nz)) ∧ h = h0 ∧ L = []) ({ frames := 0, cells := 0, slots := 0, locals := 0 } : Room).cells ({ frames := 0, cells := 0, slots := 0, locals := 0 } : Room).slots Tj (mkF m 7 #[.val (.ref oa), .val (.ref ob), .val (.int (2 : Int32)), .val (.int (0 : Int32)), s4, s5, s6, s7] []) := by
    intro Tj s4 s5 s6 s7 Xj ej hs4 hs5 hs6 hs7 hR
    refine E.iloadN (q := 8) Xj hx (hb hby d10_7) rfl ?_
    refine Ends.getS Xj hx hZ hown (host := "") (Or.inl (hw _ (List.mem_of_getElem? (i := 14) rfl))) Via.refl ej (own_sta_keep S0 O0.1 own_ns0) (hb hby d10_8) ?_
    intro T633 X633 e633
    refine E.icmpN (q := 14) X633 hx (hb hby d10_11) (XT.ii_ge_f (by decide)) ?_
    refine E.aloadN (q := 15) X633 hx (hb hby d10_14) rfl rfl ?_
    refine Ends.getF X633 hx hZ hown (host := "") (Or.inl (hw _ (List.mem_of_getElem? (i := 26) rfl))) Via.refl e633 F_n (hb hby d10_15) ?_
    intro T634 X634 e634
    refine E.iloadN (q := 19) X634 hx (hb hby d10_18) rfl ?_
    refine Ends.ald X634 hx hZ e634 A_nA rfl (i := 0) rfl rfl (hb hby d10_19) ?_
    refine E.astore (q := 22) (l' := #[.val (.ref oa), .val (.ref ob), .val (.int (2 : Int32)), .val (.int (0 : Int32)), .val (.ref n0), s5, s6, s7]) X634 hx (hb hby d10_20) rfl (XS.store1 rfl hs4 rfl) ?_
    refine E.aloadN (q := 23) X634 hx (hb hby d10_22) rfl rfl ?_
    refine E.iloadN (q := 24) X634 hx (hb hby d10_23) rfl ?_
    refine Ends.ild X634 hx hZ e634 A_ob (i := 0) rfl rfl (hb hby d10_24) ?_
    refine E.istore (q := 27) (l' := #[.val (.ref oa), .val (.ref ob), .val (.int (2 : Int32)), .val (.int (0 : Int32)), .val (.ref n0), .val (.int bv0), s6, s7]) X634 hx (hb hby d10_25) (XS.store1 rfl hs5 rfl) ?_
    refine E.iconst (q := 28) (v := (0 : Int32)) X634 hx (hb hby d10_27) rfl ?_
    refine E.istore (q := 30) (l' := #[.val (.ref oa), .val (.ref ob), .val (.int (2 : Int32)), .val (.int (0 : Int32)), .val (.ref n0), .val (.int bv0), .val (.int (0 : Int32)), s7]) X634 hx (hb hby d10_28) (XS.store1 rfl hs6 rfl) ?_
    refine E.iload (q := 32) X634 hx (hb hby d10_30) rfl ?_
    refine E.iloadN (q := 33) X634 hx (hb hby d10_32) rfl ?_
    refine E.icmpN (q := 36) X634 hx (hb hby d10_33) (XT.ii_ge_f (by decide)) ?_
    refine E.aload (q := 38) X634 hx (hb hby d10_36) rfl rfl ?_
    refine E.iload (q := 40) X634 hx (hb hby d10_38) rfl ?_
    refine Ends.ild X634 hx hZ e634 A_n0 (i := 0) rfl rfl (hb hby d10_40) ?_
    by_cases hc635 : x00 < (0 : Int32)
    · refine E.ifY (q := 54) X634 hx (hb hby d10_41) (XT.i0_lt_t hc635) ?_
      refine E.iload (q := 56) X634 hx (hb hby d10_54) rfl ?_
      refine E.istoreN (q := 57) (l' := #[.val (.ref oa), .val (.ref ob), .val (.int (0 : Int32)), .val (.int (0 : Int32)), .val (.ref n0), .val (.int bv0), .val (.int (0 : Int32)), s7]) X634 hx (hb hby d10_56) rfl ?_
      refine E.iinc (q := 60) (v := (1 : Int32)) (l' := #[.val (.ref oa), .val (.ref ob), .val (.int (0 : Int32)), .val (.int (0 : Int32)), .val (.ref n0), .val (.int bv0), .val (.int (1 : Int32)), s7]) X634 hx (hb hby d10_57) rfl (by decide) rfl ?_
      refine E.goto (q := 30) X634 hx (hb hby d10_60) ?_
      refine E.iload (q := 32) X634 hx (hb hby d10_30) rfl ?_
      refine E.iloadN (q := 33) X634 hx (hb hby d10_32) rfl ?_
      refine E.icmpY (q := 63) X634 hx (hb hby d10_33) (XT.ii_ge_t (by decide)) ?_
      refine E.iinc (q := 66) (v := (1 : Int32)) (l' := #[.val (.ref oa), .val (.ref ob), .val (.int (0 : Int32)), .val (.int (1 : Int32)), .val (.ref n0), .val (.int bv0), .val (.int (1 : Int32)), s7]) X634 hx (hb hby d10_63) rfl (by decide) rfl ?_
      refine E.goto (q := 7) X634 hx (hb hby d10_66) ?_
      have hst : own_st C0 (2 : Int32) = (0 : Int32) := by rw [hC0]; simp [own_st, own_bi, own_bd, hc635]
      exact JN1_0 T634 (.val (.ref n0)) (.val (.int bv0)) (.val (.int (1 : Int32))) s7 X634 e634 (Or.inr ⟨_, rfl, rfl⟩) (Or.inr ⟨_, rfl, rfl⟩) (Or.inr ⟨_, rfl, rfl⟩) hs7 (hR.trans (congrArg (own_fold [C1, C2, C3, C4, C5, C6, C7]) hst))
    · refine E.ifN (q := 44) X634 hx (hb hby d10_41) (XT.i0_lt_f hc635) ?_
      refine E.aload (q := 46) X634 hx (hb hby d10_44) rfl rfl ?_
      refine E.iload (q := 48) X634 hx (hb hby d10_46) rfl ?_
      refine Ends.ild X634 hx hZ e634 A_n0 (i := 0) rfl rfl (hb hby d10_48) ?_
      refine E.iload (q := 51) X634 hx (hb hby d10_49) rfl ?_
      by_cases hc636 : x00 < bv0
      · refine E.icmpY (q := 57) X634 hx (hb hby d10_51) (XT.ii_lt_t hc636) ?_
        refine E.iinc (q := 60) (v := (1 : Int32)) (l' := #[.val (.ref oa), .val (.ref ob), .val (.int (2 : Int32)), .val (.int (0 : Int32)), .val (.ref n0), .val (.int bv0), .val (.int (1 : Int32)), s7]) X634 hx (hb hby d10_57) rfl (by decide) rfl ?_
        refine E.goto (q := 30) X634 hx (hb hby d10_60) ?_
        refine E.iload (q := 32) X634 hx (hb hby d10_30) rfl ?_
        refine E.iloadN (q := 33) X634 hx (hb hby d10_32) rfl ?_
        refine E.icmpN (q := 36) X634 hx (hb hby d10_33) (XT.ii_ge_f (by decide)) ?_
        refine E.aload (q := 38) X634 hx (hb hby d10_36) rfl rfl ?_
        refine E.iload (q := 40) X634 hx (hb hby d10_38) rfl ?_
        refine Ends.ild X634 hx hZ e634 A_n0 (i := 1) rfl rfl (hb hby d10_40) ?_
        by_cases hc637 : x01 < (0 : Int32)
        · refine E.ifY (q := 54) X634 hx (hb hby d10_41) (XT.i0_lt_t hc637) ?_
          refine E.iload (q := 56) X634 hx (hb hby d10_54) rfl ?_
          refine E.istoreN (q := 57) (l' := #[.val (.ref oa), .val (.ref ob), .val (.int (1 : Int32)), .val (.int (0 : Int32)), .val (.ref n0), .val (.int bv0), .val (.int (1 : Int32)), s7]) X634 hx (hb hby d10_56) rfl ?_
          refine E.iinc (q := 60) (v := (2 : Int32)) (l' := #[.val (.ref oa), .val (.ref ob), .val (.int (1 : Int32)), .val (.int (0 : Int32)), .val (.ref n0), .val (.int bv0), .val (.int (2 : Int32)), s7]) X634 hx (hb hby d10_57) rfl (by decide) rfl ?_
          refine E.goto (q := 30) X634 hx (hb hby d10_60) ?_
          refine E.iload (q := 32) X634 hx (hb hby d10_30) rfl ?_
          refine E.iloadN (q := 33) X634 hx (hb hby d10_32) rfl ?_
          refine E.icmpY (q := 63) X634 hx (hb hby d10_33) (XT.ii_ge_t (by decide)) ?_
          refine E.iinc (q := 66) (v := (1 : Int32)) (l' := #[.val (.ref oa), .val (.ref ob), .val (.int (1 : Int32)), .val (.int (1 : Int32)), .val (.ref n0), .val (.int bv0), .val (.int (2 : Int32)), s7]) X634 hx (hb hby d10_63) rfl (by decide) rfl ?_
          refine E.goto (q := 7) X634 hx (hb hby d10_66) ?_
          have hst : own_st C0 (2 : Int32) = (1 : Int32) := by rw [hC0]; simp [own_st, own_bi, own_bd, hc635, hc636, hc637]
          exact JN1_1 T634 (.val (.ref n0)) (.val (.int bv0)) (.val (.int (2 : Int32))) s7 X634 e634 (Or.inr ⟨_, rfl, rfl⟩) (Or.inr ⟨_, rfl, rfl⟩) (Or.inr ⟨_, rfl, rfl⟩) hs7 (hR.trans (congrArg (own_fold [C1, C2, C3, C4, C5, C6, C7]) hst))
        · refine E.ifN (q := 44) X634 hx (hb hby d10_41) (XT.i0_lt_f hc637) ?_
          refine E.aload (q := 46) X634 hx (hb hby d10_44) rfl rfl ?_
          refine E.iload (q := 48) X634 hx (hb hby d10_46) rfl ?_
          refine Ends.ild X634 hx hZ e634 A_n0 (i := 1) rfl rfl (hb hby d10_48) ?_
          refine E.iload (q := 51) X634 hx (hb hby d10_49) rfl ?_
          by_cases hc638 : x01 < bv0
          · refine E.icmpY (q := 57) X634 hx (hb hby d10_51) (XT.ii_lt_t hc638) ?_
            refine E.iinc (q := 60) (v := (2 : Int32)) (l' := #[.val (.ref oa), .val (.ref ob), .val (.int (2 : Int32)), .val (.int (0 : Int32)), .val (.ref n0), .val (.int bv0), .val (.int (2 : Int32)), s7]) X634 hx (hb hby d10_57) rfl (by decide) rfl ?_
            refine E.goto (q := 30) X634 hx (hb hby d10_60) ?_
            refine E.iload (q := 32) X634 hx (hb hby d10_30) rfl ?_
            refine E.iloadN (q := 33) X634 hx (hb hby d10_32) rfl ?_
            refine E.icmpY (q := 63) X634 hx (hb hby d10_33) (XT.ii_ge_t (by decide)) ?_
            refine E.iinc (q := 66) (v := (1 : Int32)) (l' := #[.val (.ref oa), .val (.ref ob), .val (.int (2 : Int32)), .val (.int (1 : Int32)), .val (.ref n0), .val (.int bv0), .val (.int (2 : Int32)), s7]) X634 hx (hb hby d10_63) rfl (by decide) rfl ?_
            refine E.goto (q := 7) X634 hx (hb hby d10_66) ?_
            have hst : own_st C0 (2 : Int32) = (2 : Int32) := by rw [hC0]; simp [own_st, own_bi, own_bd, hc635, hc636, hc637, hc638]
            exact JN1_2 T634 (.val (.ref n0)) (.val (.int bv0)) (.val (.int (2 : Int32))) s7 X634 e634 (Or.inr ⟨_, rfl, rfl⟩) (Or.inr ⟨_, rfl, rfl⟩) (Or.inr ⟨_, rfl, rfl⟩) hs7 (hR.trans (congrArg (own_fold [C1, C2, C3, C4, C5, C6, C7]) hst))
          · refine E.icmpN (q := 54) X634 hx (hb hby d10_51) (XT.ii_lt_f hc638) ?_
            refine E.iload (q := 56) X634 hx (hb hby d10_54) rfl ?_
            refine E.istoreN (q := 57) (l' := #[.val (.ref oa), .val (.ref ob), .val (.int (1 : Int32)), .val (.int (0 : Int32)), .val (.ref n0), .val (.int bv0), .val (.int (1 : Int32)), s7]) X634 hx (hb hby d10_56) rfl ?_
            refine E.iinc (q := 60) (v := (2 : Int32)) (l' := #[.val (.ref oa), .val (.ref ob), .val (.int (1 : Int32)), .val (.int (0 : Int32)), .val (.ref n0), .val (.int bv0), .val (.int (2 : Int32)), s7]) X634 hx (hb hby d10_57) rfl (by decide) rfl ?_
            refine E.goto (q := 30) X634 hx (hb hby d10_60) ?_
            refine E.iload (q := 32) X634 hx (hb hby d10_30) rfl ?_
            refine E.iloadN (q := 33) X634 hx (hb hby d10_32) rfl ?_
            refine E.icmpY (q := 63) X634 hx (hb hby d10_33) (XT.ii_ge_t (by decide)) ?_
            refine E.iinc (q := 66) (v := (1 : Int32)) (l' := #[.val (.ref oa), .val (.ref ob), .val (.int (1 : Int32)), .val (.int (1 : Int32)), .val (.ref n0), .val (.int bv0), .val (.int (2 : Int32)), s7]) X634 hx (hb hby d10_63) rfl (by decide) rfl ?_
            refine E.goto (q := 7) X634 hx (hb hby d10_66) ?_
            have hst : own_st C0 (2 : Int32) = (1 : Int32) := by rw [hC0]; simp [own_st, own_bi, own_bd, hc635, hc636, hc637, hc638]
            exact JN1_1 T634 (.val (.ref n0)) (.val (.int bv0)) (.val (.int (2 : Int32))) s7 X634 e634 (Or.inr ⟨_, rfl, rfl⟩) (Or.inr ⟨_, rfl, rfl⟩) (Or.inr ⟨_, rfl, rfl⟩) hs7 (hR.trans (congrArg (own_fold [C1, C2, C3, C4, C5, C6, C7]) hst))
      · refine E.icmpN (q := 54) X634 hx (hb hby d10_51) (XT.ii_lt_f hc636) ?_
        refine E.iload (q := 56) X634 hx (hb hby d10_54) rfl ?_
        refine E.istoreN (q := 57) (l' := #[.val (.ref oa), .val (.ref ob), .val (.int (0 : Int32)), .val (.int (0 : Int32)), .val (.ref n0), .val (.int bv0), .val (.int (0 : Int32)), s7]) X634 hx (hb hby d10_56) rfl ?_
        refine E.iinc (q := 60) (v := (1 : Int32)) (l' := #[.val (.ref oa), .val (.ref ob), .val (.int (0 : Int32)), .val (.int (0 : Int32)), .val (.ref n0), .val (.int bv0), .val (.int (1 : Int32)), s7]) X634 hx (hb hby d10_57) rfl (by decide) rfl ?_
        refine E.goto (q := 30) X634 hx (hb hby d10_60) ?_
        refine E.iload (q := 32) X634 hx (hb hby d10_30) rfl ?_
        refine E.iloadN (q := 33) X634 hx (hb hby d10_32) rfl ?_
        refine E.icmpY (q := 63) X634 hx (hb hby d10_33) (XT.ii_ge_t (by decide)) ?_
        refine E.iinc (q := 66) (v := (1 : Int32)) (l' := #[.val (.ref oa), .val (.ref ob), .val (.int (0 : Int32)), .val (.int (1 : Int32)), .val (.ref n0), .val (.int bv0), .val (.int (1 : Int32)), s7]) X634 hx (hb hby d10_63) rfl (by decide) rfl ?_
        refine E.goto (q := 7) X634 hx (hb hby d10_66) ?_
        have hst : own_st C0 (2 : Int32) = (0 : Int32) := by rw [hC0]; simp [own_st, own_bi, own_bd, hc635, hc636]
        exact JN1_0 T634 (.val (.ref n0)) (.val (.int bv0)) (.val (.int (1 : Int32))) s7 X634 e634 (Or.inr ⟨_, rfl, rfl⟩) (Or.inr ⟨_, rfl, rfl⟩) (Or.inr ⟨_, rfl, rfl⟩) hs7 (hR.trans (congrArg (own_fold [C1, C2, C3, C4, C5, C6, C7]) hst))
  refine E.aloadN (q := 1) X0 hx (hb hby d10_0) rfl rfl ?_
  refine Ends.getF X0 hx hZ hown (host := "") (Or.inl (hw _ (List.mem_of_getElem? (i := 30) rfl))) Via.refl e0 F_s (hb hby d10_1) ?_
  intro T639 X639 e639
  refine E.istoreN (q := 5) (l' := #[.val (.ref oa), .val (.ref ob), .val (.int nz), .unset, .unset, .unset, .unset, .unset]) X639 hx (hb hby d10_4) rfl ?_
  refine E.iconst (q := 6) (v := (0 : Int32)) X639 hx (hb hby d10_5) rfl ?_
  refine E.istoreN (q := 7) (l' := #[.val (.ref oa), .val (.ref ob), .val (.int nz), .val (.int (0 : Int32)), .unset, .unset, .unset, .unset]) X639 hx (hb hby d10_6) rfl ?_
  rcases hnz with rfl | rfl | rfl
  · exact JN0_0 T639 (.unset) (.unset) (.unset) (.unset) X639 e639 (Or.inl rfl) (Or.inl rfl) (Or.inl rfl) (Or.inl rfl) rfl
  · exact JN0_1 T639 (.unset) (.unset) (.unset) (.unset) X639 e639 (Or.inl rfl) (Or.inl rfl) (Or.inl rfl) (Or.inl rfl) rfl
  · exact JN0_2 T639 (.unset) (.unset) (.unset) (.unset) X639 e639 (Or.inl rfl) (Or.inl rfl) (Or.inl rfl) (Or.inl rfl) rfl
theorem ef_0 (m : MethodId) (x0 : Int64) (x1 : Int64) (x2 : Int64) (x3 : Int64) (x4 : Int64) (x5 : Int64) : entryFrame m #[(.long x0), (.long x1), (.long x2), (.long x3), (.long x4), (.long x5)] maxLocals = mkF m 0 #[.val (.long x0), .second, .val (.long x1), .second, .val (.long x2), .second, .val (.long x3), .second, .val (.long x4), .second, .val (.long x5), .second, .unset, .unset, .unset, .unset, .unset, .unset, .unset, .unset, .unset, .unset, .unset, .unset, .unset, .unset, .unset, .unset, .unset, .unset, .unset, .unset, .unset, .unset, .unset, .unset, .unset, .unset, .unset] [] := by first | (simp [entryFrame, mkF, argsToLocals, Value.category, maxLocals]; done) | rfl
set_option maxRecDepth 65536 in
set_option maxHeartbeats 40000000 in
theorem rm0 (l : Launch) (Z : State) (a0 : Array Value) (hw : ∀ d ∈ tables_1, d.before a0 Z = true) (pp0 : Int64) (pp1 : Int64) (pp2 : Int64) (pp3 : Int64) (pp4 : Int64) (pp5 : Int64) (h0 : Heap) (S0 : Sta Z h0 "com/example/hourline/hourline/network/EdgeValues" "NUMBERS" "I" (.int (4 : Int32))) :
    Con l x code maxLocals ret tables_1 room_1 #[(.long pp0), (.long pp1), (.long pp2), (.long pp3), (.long pp4), (.long pp5)] Z h0 (fun v h L => v = some (.int 1) ∧ Fr h0.size L) := by
  refine Con.of (plainFor_of_name pn_0) ?_
  intro p e s m below meth c s₁ hx hZ hby hml hown hnm hret hlk X0 e0
  refine Ends.cast (ef_0 m pp0 pp1 pp2 pp3 pp4 pp5) ?_
  show Ends p e below s _ _ _ s₁ (mkF m 0 #[.val (.long pp0), .second, .val (.long pp1), .second, .val (.long pp2), .second, .val (.long pp3), .second, .val (.long pp4), .second, .val (.long pp5), .second, .unset, .unset, .unset, .unset, .unset, .unset, .unset, .unset, .unset, .unset, .unset, .unset, .unset, .unset, .unset, .unset, .unset, .unset, .unset, .unset, .unset, .unset, .unset, .unset, .unset, .unset, .unset] [])
  have O0 := Ok.refl h0 []
  refine E.lload (q := 2) X0 hx (hb hby at_0) rfl ?_
  refine Ends.callS X0 hx hZ hown (hw _ (List.mem_of_getElem? (i := 0) rfl)) (hw _ (List.mem_of_getElem? (i := 1) rfl)) (hw _ (List.mem_of_getElem? (i := 2) rfl)) (hw _ (List.mem_of_getElem? (i := 3) rfl)) (by decide) (argsL := [(.long pp4)]) (rest := []) e0 (rm1 l Z a0 hw pp4 h0) (W := 0) (by decide) (by decide) (by rw [hml]; rfl) (lenOf pd_2 rfl) (Nat.le_of_eq rfl) (hb hby at_2) (by decide) (by decide) rfl ?_
  rintro T640 v640 L640 X640 ⟨rfl, e640, rfl⟩
  rw [List.append_nil] at X640
  obtain ⟨bv, hbv⟩ : ∃ z, z = (pp4.toInt32) := ⟨_, rfl⟩
  rw [← hbv]
  refine E.istore (q := 7) (l' := #[.val (.long pp0), .second, .val (.long pp1), .second, .val (.long pp2), .second, .val (.long pp3), .second, .val (.long pp4), .second, .val (.long pp5), .second, .val (.int bv), .unset, .unset, .unset, .unset, .unset, .unset, .unset, .unset, .unset, .unset, .unset, .unset, .unset, .unset, .unset, .unset, .unset, .unset, .unset, .unset, .unset, .unset, .unset, .unset, .unset, .unset]) X640 hx (hb hby at_5) rfl ?_
  refine E.lload (q := 9) X640 hx (hb hby at_7) rfl ?_
  refine Ends.callS X640 hx hZ hown (hw _ (List.mem_of_getElem? (i := 4) rfl)) (hw _ (List.mem_of_getElem? (i := 5) rfl)) (hw _ (List.mem_of_getElem? (i := 2) rfl)) (hw _ (List.mem_of_getElem? (i := 6) rfl)) (by decide) (argsL := [(.long pp4)]) (rest := []) e640 (rm2 l Z a0 hw pp4 h0) (W := 0) (by decide) (by decide) (by rw [hml]; rfl) (lenOf pd_2 rfl) (Nat.le_of_eq rfl) (hb hby at_9) (by decide) (by decide) rfl ?_
  rintro T641 v641 L641 X641 ⟨rfl, e641, rfl⟩
  rw [List.append_nil] at X641
  obtain ⟨bw, hbw⟩ : ∃ z, z = (own_hi pp4) := ⟨_, rfl⟩
  rw [← hbw]
  refine E.istore (q := 14) (l' := #[.val (.long pp0), .second, .val (.long pp1), .second, .val (.long pp2), .second, .val (.long pp3), .second, .val (.long pp4), .second, .val (.long pp5), .second, .val (.int bv), .val (.int bw), .unset, .unset, .unset, .unset, .unset, .unset, .unset, .unset, .unset, .unset, .unset, .unset, .unset, .unset, .unset, .unset, .unset, .unset, .unset, .unset, .unset, .unset, .unset, .unset, .unset]) X641 hx (hb hby at_12) rfl ?_
  refine E.lload (q := 16) X641 hx (hb hby at_14) rfl ?_
  refine Ends.callS X641 hx hZ hown (hw _ (List.mem_of_getElem? (i := 0) rfl)) (hw _ (List.mem_of_getElem? (i := 1) rfl)) (hw _ (List.mem_of_getElem? (i := 2) rfl)) (hw _ (List.mem_of_getElem? (i := 3) rfl)) (by decide) (argsL := [(.long pp5)]) (rest := []) e641 (rm1 l Z a0 hw pp5 h0) (W := 0) (by decide) (by decide) (by rw [hml]; rfl) (lenOf pd_2 rfl) (Nat.le_of_eq rfl) (hb hby at_16) (by decide) (by decide) rfl ?_
  rintro T642 v642 L642 X642 ⟨rfl, e642, rfl⟩
  rw [List.append_nil] at X642
  obtain ⟨br, hbr⟩ : ∃ z, z = (pp5.toInt32) := ⟨_, rfl⟩
  rw [← hbr]
  refine E.istore (q := 21) (l' := #[.val (.long pp0), .second, .val (.long pp1), .second, .val (.long pp2), .second, .val (.long pp3), .second, .val (.long pp4), .second, .val (.long pp5), .second, .val (.int bv), .val (.int bw), .val (.int br), .unset, .unset, .unset, .unset, .unset, .unset, .unset, .unset, .unset, .unset, .unset, .unset, .unset, .unset, .unset, .unset, .unset, .unset, .unset, .unset, .unset, .unset, .unset, .unset]) X642 hx (hb hby at_19) rfl ?_
  refine E.lload (q := 23) X642 hx (hb hby at_21) rfl ?_
  refine Ends.callS X642 hx hZ hown (hw _ (List.mem_of_getElem? (i := 4) rfl)) (hw _ (List.mem_of_getElem? (i := 5) rfl)) (hw _ (List.mem_of_getElem? (i := 2) rfl)) (hw _ (List.mem_of_getElem? (i := 6) rfl)) (by decide) (argsL := [(.long pp5)]) (rest := []) e642 (rm2 l Z a0 hw pp5 h0) (W := 0) (by decide) (by decide) (by rw [hml]; rfl) (lenOf pd_2 rfl) (Nat.le_of_eq rfl) (hb hby at_23) (by decide) (by decide) rfl ?_
  rintro T643 v643 L643 X643 ⟨rfl, e643, rfl⟩
  rw [List.append_nil] at X643
  obtain ⟨ct, hct⟩ : ∃ z, z = (own_hi pp5) := ⟨_, rfl⟩
  rw [← hct]
  refine E.istore (q := 28) (l' := #[.val (.long pp0), .second, .val (.long pp1), .second, .val (.long pp2), .second, .val (.long pp3), .second, .val (.long pp4), .second, .val (.long pp5), .second, .val (.int bv), .val (.int bw), .val (.int br), .val (.int ct), .unset, .unset, .unset, .unset, .unset, .unset, .unset, .unset, .unset, .unset, .unset, .unset, .unset, .unset, .unset, .unset, .unset, .unset, .unset, .unset, .unset, .unset, .unset]) X643 hx (hb hby at_26) rfl ?_
  refine E.iload (q := 30) X643 hx (hb hby at_28) rfl ?_
  refine E.iconst (q := 31) (v := (3 : Int32)) X643 hx (hb hby at_30) rfl ?_
  refine E.iand (q := 32) X643 hx (hb hby at_31) ?_
  refine E.iconst (q := 33) (v := (3 : Int32)) X643 hx (hb hby at_32) rfl ?_
  refine E.irem (q := 34) X643 hx (hb hby at_33) (by decide) ?_
  obtain ⟨nn, hnn⟩ : ∃ z, z = ((ct &&& (3 : Int32)) % (3 : Int32)) := ⟨_, rfl⟩
  rw [← hnn]
  have hN := own_three hnn
  refine E.istore (q := 36) (l' := #[.val (.long pp0), .second, .val (.long pp1), .second, .val (.long pp2), .second, .val (.long pp3), .second, .val (.long pp4), .second, .val (.long pp5), .second, .val (.int bv), .val (.int bw), .val (.int br), .val (.int ct), .val (.int nn), .unset, .unset, .unset, .unset, .unset, .unset, .unset, .unset, .unset, .unset, .unset, .unset, .unset, .unset, .unset, .unset, .unset, .unset, .unset, .unset, .unset, .unset]) X643 hx (hb hby at_34) rfl ?_
  refine E.iload (q := 38) X643 hx (hb hby at_36) rfl ?_
  refine E.iconst (q := 39) (v := (4 : Int32)) X643 hx (hb hby at_38) rfl ?_
  refine E.iand (q := 40) X643 hx (hb hby at_39) ?_
  have JC : ∀ cl : Int32, cl = (0 : Int32) ∨ cl = (1 : Int32) → Ends p e below s (fun v h L => v = some (.int 1) ∧ Fr h0.size L) room_1.cells room_1.slots T643 (mkF m 48 #[.val (.long pp0), .second, .val (.long pp1), .second, .val (.long pp2), .second, .val (.long pp3), .second, .val (.long pp4), .second, .val (.long pp5), .second, .val (.int bv), .val (.int bw), .val (.int br), .val (.int ct), .val (.int nn), .unset, .unset, .unset, .unset, .unset, .unset, .unset, .unset, .unset, .unset, .unset, .unset, .unset, .unset, .unset, .unset, .unset, .unset, .unset, .unset, .unset, .unset] [(.int cl)]) := by
    intro cl hcl
    refine E.istore (q := 50) (l' := #[.val (.long pp0), .second, .val (.long pp1), .second, .val (.long pp2), .second, .val (.long pp3), .second, .val (.long pp4), .second, .val (.long pp5), .second, .val (.int bv), .val (.int bw), .val (.int br), .val (.int ct), .val (.int nn), .val (.int cl), .unset, .unset, .unset, .unset, .unset, .unset, .unset, .unset, .unset, .unset, .unset, .unset, .unset, .unset, .unset, .unset, .unset, .unset, .unset, .unset, .unset]) X643 hx (hb hby at_48) rfl ?_
    refine E.iload (q := 52) X643 hx (hb hby at_50) rfl ?_
    refine E.iconst (q := 53) (v := (3 : Int32)) X643 hx (hb hby at_52) rfl ?_
    refine E.iushr (q := 54) X643 hx (hb hby at_53) ?_
    refine E.bipush (q := 56) (v := (7 : Int32)) X643 hx (hb hby at_54) rfl ?_
    refine E.iand (q := 57) X643 hx (hb hby at_56) ?_
    obtain ⟨s0, hs0⟩ : ∃ z, z = (((ct.toUInt32 >>> ((3 : Int32) &&& 31).toUInt32).toInt32) &&& (7 : Int32)) := ⟨_, rfl⟩
    rw [← hs0]
    have ks0 := own_eight hs0
    refine E.istore (q := 59) (l' := #[.val (.long pp0), .second, .val (.long pp1), .second, .val (.long pp2), .second, .val (.long pp3), .second, .val (.long pp4), .second, .val (.long pp5), .second, .val (.int bv), .val (.int bw), .val (.int br), .val (.int ct), .val (.int nn), .val (.int cl), .val (.int s0), .unset, .unset, .unset, .unset, .unset, .unset, .unset, .unset, .unset, .unset, .unset, .unset, .unset, .unset, .unset, .unset, .unset, .unset, .unset, .unset]) X643 hx (hb hby at_57) rfl ?_
    refine E.iload (q := 61) X643 hx (hb hby at_59) rfl ?_
    refine E.bipush (q := 63) (v := (6 : Int32)) X643 hx (hb hby at_61) rfl ?_
    refine E.iushr (q := 64) X643 hx (hb hby at_63) ?_
    refine E.bipush (q := 66) (v := (7 : Int32)) X643 hx (hb hby at_64) rfl ?_
    refine E.iand (q := 67) X643 hx (hb hby at_66) ?_
    obtain ⟨e0_, he0_⟩ : ∃ z, z = (((ct.toUInt32 >>> ((6 : Int32) &&& 31).toUInt32).toInt32) &&& (7 : Int32)) := ⟨_, rfl⟩
    rw [← he0_]
    have ke0_ := own_eight he0_
    refine E.istore (q := 69) (l' := #[.val (.long pp0), .second, .val (.long pp1), .second, .val (.long pp2), .second, .val (.long pp3), .second, .val (.long pp4), .second, .val (.long pp5), .second, .val (.int bv), .val (.int bw), .val (.int br), .val (.int ct), .val (.int nn), .val (.int cl), .val (.int s0), .val (.int e0_), .unset, .unset, .unset, .unset, .unset, .unset, .unset, .unset, .unset, .unset, .unset, .unset, .unset, .unset, .unset, .unset, .unset, .unset, .unset]) X643 hx (hb hby at_67) rfl ?_
    refine E.iload (q := 71) X643 hx (hb hby at_69) rfl ?_
    refine E.bipush (q := 73) (v := (9 : Int32)) X643 hx (hb hby at_71) rfl ?_
    refine E.iushr (q := 74) X643 hx (hb hby at_73) ?_
    refine E.bipush (q := 76) (v := (7 : Int32)) X643 hx (hb hby at_74) rfl ?_
    refine E.iand (q := 77) X643 hx (hb hby at_76) ?_
    obtain ⟨c0, hc0⟩ : ∃ z, z = (((ct.toUInt32 >>> ((9 : Int32) &&& 31).toUInt32).toInt32) &&& (7 : Int32)) := ⟨_, rfl⟩
    rw [← hc0]
    have kc0 := own_eight hc0
    refine E.istore (q := 79) (l' := #[.val (.long pp0), .second, .val (.long pp1), .second, .val (.long pp2), .second, .val (.long pp3), .second, .val (.long pp4), .second, .val (.long pp5), .second, .val (.int bv), .val (.int bw), .val (.int br), .val (.int ct), .val (.int nn), .val (.int cl), .val (.int s0), .val (.int e0_), .val (.int c0), .unset, .unset, .unset, .unset, .unset, .unset, .unset, .unset, .unset, .unset, .unset, .unset, .unset, .unset, .unset, .unset, .unset, .unset]) X643 hx (hb hby at_77) rfl ?_
    refine E.iload (q := 81) X643 hx (hb hby at_79) rfl ?_
    refine E.bipush (q := 83) (v := (12 : Int32)) X643 hx (hb hby at_81) rfl ?_
    refine E.iushr (q := 84) X643 hx (hb hby at_83) ?_
    refine E.bipush (q := 86) (v := (7 : Int32)) X643 hx (hb hby at_84) rfl ?_
    refine E.iand (q := 87) X643 hx (hb hby at_86) ?_
    obtain ⟨d0, hd0⟩ : ∃ z, z = (((ct.toUInt32 >>> ((12 : Int32) &&& 31).toUInt32).toInt32) &&& (7 : Int32)) := ⟨_, rfl⟩
    rw [← hd0]
    have kd0 := own_eight hd0
    refine E.istore (q := 89) (l' := #[.val (.long pp0), .second, .val (.long pp1), .second, .val (.long pp2), .second, .val (.long pp3), .second, .val (.long pp4), .second, .val (.long pp5), .second, .val (.int bv), .val (.int bw), .val (.int br), .val (.int ct), .val (.int nn), .val (.int cl), .val (.int s0), .val (.int e0_), .val (.int c0), .val (.int d0), .unset, .unset, .unset, .unset, .unset, .unset, .unset, .unset, .unset, .unset, .unset, .unset, .unset, .unset, .unset, .unset, .unset]) X643 hx (hb hby at_87) rfl ?_
    refine E.iload (q := 91) X643 hx (hb hby at_89) rfl ?_
    refine E.bipush (q := 93) (v := (15 : Int32)) X643 hx (hb hby at_91) rfl ?_
    refine E.iushr (q := 94) X643 hx (hb hby at_93) ?_
    refine E.bipush (q := 96) (v := (7 : Int32)) X643 hx (hb hby at_94) rfl ?_
    refine E.iand (q := 97) X643 hx (hb hby at_96) ?_
    obtain ⟨s1, hs1⟩ : ∃ z, z = (((ct.toUInt32 >>> ((15 : Int32) &&& 31).toUInt32).toInt32) &&& (7 : Int32)) := ⟨_, rfl⟩
    rw [← hs1]
    have ks1 := own_eight hs1
    refine E.istore (q := 99) (l' := #[.val (.long pp0), .second, .val (.long pp1), .second, .val (.long pp2), .second, .val (.long pp3), .second, .val (.long pp4), .second, .val (.long pp5), .second, .val (.int bv), .val (.int bw), .val (.int br), .val (.int ct), .val (.int nn), .val (.int cl), .val (.int s0), .val (.int e0_), .val (.int c0), .val (.int d0), .val (.int s1), .unset, .unset, .unset, .unset, .unset, .unset, .unset, .unset, .unset, .unset, .unset, .unset, .unset, .unset, .unset, .unset]) X643 hx (hb hby at_97) rfl ?_
    refine E.iload (q := 101) X643 hx (hb hby at_99) rfl ?_
    refine E.bipush (q := 103) (v := (18 : Int32)) X643 hx (hb hby at_101) rfl ?_
    refine E.iushr (q := 104) X643 hx (hb hby at_103) ?_
    refine E.bipush (q := 106) (v := (7 : Int32)) X643 hx (hb hby at_104) rfl ?_
    refine E.iand (q := 107) X643 hx (hb hby at_106) ?_
    obtain ⟨e1, he1⟩ : ∃ z, z = (((ct.toUInt32 >>> ((18 : Int32) &&& 31).toUInt32).toInt32) &&& (7 : Int32)) := ⟨_, rfl⟩
    rw [← he1]
    have ke1 := own_eight he1
    refine E.istore (q := 109) (l' := #[.val (.long pp0), .second, .val (.long pp1), .second, .val (.long pp2), .second, .val (.long pp3), .second, .val (.long pp4), .second, .val (.long pp5), .second, .val (.int bv), .val (.int bw), .val (.int br), .val (.int ct), .val (.int nn), .val (.int cl), .val (.int s0), .val (.int e0_), .val (.int c0), .val (.int d0), .val (.int s1), .val (.int e1), .unset, .unset, .unset, .unset, .unset, .unset, .unset, .unset, .unset, .unset, .unset, .unset, .unset, .unset, .unset]) X643 hx (hb hby at_107) rfl ?_
    refine E.iload (q := 111) X643 hx (hb hby at_109) rfl ?_
    refine E.bipush (q := 113) (v := (21 : Int32)) X643 hx (hb hby at_111) rfl ?_
    refine E.iushr (q := 114) X643 hx (hb hby at_113) ?_
    refine E.bipush (q := 116) (v := (7 : Int32)) X643 hx (hb hby at_114) rfl ?_
    refine E.iand (q := 117) X643 hx (hb hby at_116) ?_
    obtain ⟨cc1, hcc1⟩ : ∃ z, z = (((ct.toUInt32 >>> ((21 : Int32) &&& 31).toUInt32).toInt32) &&& (7 : Int32)) := ⟨_, rfl⟩
    rw [← hcc1]
    have kcc1 := own_eight hcc1
    refine E.istore (q := 119) (l' := #[.val (.long pp0), .second, .val (.long pp1), .second, .val (.long pp2), .second, .val (.long pp3), .second, .val (.long pp4), .second, .val (.long pp5), .second, .val (.int bv), .val (.int bw), .val (.int br), .val (.int ct), .val (.int nn), .val (.int cl), .val (.int s0), .val (.int e0_), .val (.int c0), .val (.int d0), .val (.int s1), .val (.int e1), .val (.int cc1), .unset, .unset, .unset, .unset, .unset, .unset, .unset, .unset, .unset, .unset, .unset, .unset, .unset, .unset]) X643 hx (hb hby at_117) rfl ?_
    refine E.iload (q := 121) X643 hx (hb hby at_119) rfl ?_
    refine E.bipush (q := 123) (v := (24 : Int32)) X643 hx (hb hby at_121) rfl ?_
    refine E.iushr (q := 124) X643 hx (hb hby at_123) ?_
    refine E.bipush (q := 126) (v := (7 : Int32)) X643 hx (hb hby at_124) rfl ?_
    refine E.iand (q := 127) X643 hx (hb hby at_126) ?_
    obtain ⟨d1, hd1⟩ : ∃ z, z = (((ct.toUInt32 >>> ((24 : Int32) &&& 31).toUInt32).toInt32) &&& (7 : Int32)) := ⟨_, rfl⟩
    rw [← hd1]
    have kd1 := own_eight hd1
    refine E.istore (q := 129) (l' := #[.val (.long pp0), .second, .val (.long pp1), .second, .val (.long pp2), .second, .val (.long pp3), .second, .val (.long pp4), .second, .val (.long pp5), .second, .val (.int bv), .val (.int bw), .val (.int br), .val (.int ct), .val (.int nn), .val (.int cl), .val (.int s0), .val (.int e0_), .val (.int c0), .val (.int d0), .val (.int s1), .val (.int e1), .val (.int cc1), .val (.int d1), .unset, .unset, .unset, .unset, .unset, .unset, .unset, .unset, .unset, .unset, .unset, .unset, .unset]) X643 hx (hb hby at_127) rfl ?_
    refine E.lloadN (q := 130) X643 hx (hb hby at_129) rfl ?_
    refine Ends.callS X643 hx hZ hown (hw _ (List.mem_of_getElem? (i := 0) rfl)) (hw _ (List.mem_of_getElem? (i := 1) rfl)) (hw _ (List.mem_of_getElem? (i := 2) rfl)) (hw _ (List.mem_of_getElem? (i := 3) rfl)) (by decide) (argsL := [(.long pp0)]) (rest := []) e643 (rm1 l Z a0 hw pp0 h0) (W := 0) (by decide) (by decide) (by rw [hml]; rfl) (lenOf pd_2 rfl) (Nat.le_of_eq rfl) (hb hby at_130) (by decide) (by decide) rfl ?_
    rintro T644 v644 L644 X644 ⟨rfl, e644, rfl⟩
    rw [List.append_nil] at X644
    obtain ⟨f0, hf0⟩ : ∃ z, z = (pp0.toInt32) := ⟨_, rfl⟩
    rw [← hf0]
    refine E.istore (q := 135) (l' := #[.val (.long pp0), .second, .val (.long pp1), .second, .val (.long pp2), .second, .val (.long pp3), .second, .val (.long pp4), .second, .val (.long pp5), .second, .val (.int bv), .val (.int bw), .val (.int br), .val (.int ct), .val (.int nn), .val (.int cl), .val (.int s0), .val (.int e0_), .val (.int c0), .val (.int d0), .val (.int s1), .val (.int e1), .val (.int cc1), .val (.int d1), .val (.int f0), .unset, .unset, .unset, .unset, .unset, .unset, .unset, .unset, .unset, .unset, .unset, .unset]) X644 hx (hb hby at_133) rfl ?_
    refine E.lloadN (q := 136) X644 hx (hb hby at_135) rfl ?_
    refine Ends.callS X644 hx hZ hown (hw _ (List.mem_of_getElem? (i := 4) rfl)) (hw _ (List.mem_of_getElem? (i := 5) rfl)) (hw _ (List.mem_of_getElem? (i := 2) rfl)) (hw _ (List.mem_of_getElem? (i := 6) rfl)) (by decide) (argsL := [(.long pp0)]) (rest := []) e644 (rm2 l Z a0 hw pp0 h0) (W := 0) (by decide) (by decide) (by rw [hml]; rfl) (lenOf pd_2 rfl) (Nat.le_of_eq rfl) (hb hby at_136) (by decide) (by decide) rfl ?_
    rintro T645 v645 L645 X645 ⟨rfl, e645, rfl⟩
    rw [List.append_nil] at X645
    obtain ⟨t0, ht0⟩ : ∃ z, z = (own_hi pp0) := ⟨_, rfl⟩
    rw [← ht0]
    refine E.istore (q := 141) (l' := #[.val (.long pp0), .second, .val (.long pp1), .second, .val (.long pp2), .second, .val (.long pp3), .second, .val (.long pp4), .second, .val (.long pp5), .second, .val (.int bv), .val (.int bw), .val (.int br), .val (.int ct), .val (.int nn), .val (.int cl), .val (.int s0), .val (.int e0_), .val (.int c0), .val (.int d0), .val (.int s1), .val (.int e1), .val (.int cc1), .val (.int d1), .val (.int f0), .val (.int t0), .unset, .unset, .unset, .unset, .unset, .unset, .unset, .unset, .unset, .unset, .unset]) X645 hx (hb hby at_139) rfl ?_
    refine E.lloadN (q := 142) X645 hx (hb hby at_141) rfl ?_
    refine Ends.callS X645 hx hZ hown (hw _ (List.mem_of_getElem? (i := 0) rfl)) (hw _ (List.mem_of_getElem? (i := 1) rfl)) (hw _ (List.mem_of_getElem? (i := 2) rfl)) (hw _ (List.mem_of_getElem? (i := 3) rfl)) (by decide) (argsL := [(.long pp1)]) (rest := []) e645 (rm1 l Z a0 hw pp1 h0) (W := 0) (by decide) (by decide) (by rw [hml]; rfl) (lenOf pd_2 rfl) (Nat.le_of_eq rfl) (hb hby at_142) (by decide) (by decide) rfl ?_
    rintro T646 v646 L646 X646 ⟨rfl, e646, rfl⟩
    rw [List.append_nil] at X646
    obtain ⟨w0, hw0⟩ : ∃ z, z = (pp1.toInt32) := ⟨_, rfl⟩
    rw [← hw0]
    refine E.istore (q := 147) (l' := #[.val (.long pp0), .second, .val (.long pp1), .second, .val (.long pp2), .second, .val (.long pp3), .second, .val (.long pp4), .second, .val (.long pp5), .second, .val (.int bv), .val (.int bw), .val (.int br), .val (.int ct), .val (.int nn), .val (.int cl), .val (.int s0), .val (.int e0_), .val (.int c0), .val (.int d0), .val (.int s1), .val (.int e1), .val (.int cc1), .val (.int d1), .val (.int f0), .val (.int t0), .val (.int w0), .unset, .unset, .unset, .unset, .unset, .unset, .unset, .unset, .unset, .unset]) X646 hx (hb hby at_145) rfl ?_
    refine E.lloadN (q := 148) X646 hx (hb hby at_147) rfl ?_
    refine Ends.callS X646 hx hZ hown (hw _ (List.mem_of_getElem? (i := 4) rfl)) (hw _ (List.mem_of_getElem? (i := 5) rfl)) (hw _ (List.mem_of_getElem? (i := 2) rfl)) (hw _ (List.mem_of_getElem? (i := 6) rfl)) (by decide) (argsL := [(.long pp1)]) (rest := []) e646 (rm2 l Z a0 hw pp1 h0) (W := 0) (by decide) (by decide) (by rw [hml]; rfl) (lenOf pd_2 rfl) (Nat.le_of_eq rfl) (hb hby at_148) (by decide) (by decide) rfl ?_
    rintro T647 v647 L647 X647 ⟨rfl, e647, rfl⟩
    rw [List.append_nil] at X647
    obtain ⟨r0, hr0⟩ : ∃ z, z = (own_hi pp1) := ⟨_, rfl⟩
    rw [← hr0]
    refine E.istore (q := 153) (l' := #[.val (.long pp0), .second, .val (.long pp1), .second, .val (.long pp2), .second, .val (.long pp3), .second, .val (.long pp4), .second, .val (.long pp5), .second, .val (.int bv), .val (.int bw), .val (.int br), .val (.int ct), .val (.int nn), .val (.int cl), .val (.int s0), .val (.int e0_), .val (.int c0), .val (.int d0), .val (.int s1), .val (.int e1), .val (.int cc1), .val (.int d1), .val (.int f0), .val (.int t0), .val (.int w0), .val (.int r0), .unset, .unset, .unset, .unset, .unset, .unset, .unset, .unset, .unset]) X647 hx (hb hby at_151) rfl ?_
    refine E.lload (q := 155) X647 hx (hb hby at_153) rfl ?_
    refine Ends.callS X647 hx hZ hown (hw _ (List.mem_of_getElem? (i := 0) rfl)) (hw _ (List.mem_of_getElem? (i := 1) rfl)) (hw _ (List.mem_of_getElem? (i := 2) rfl)) (hw _ (List.mem_of_getElem? (i := 3) rfl)) (by decide) (argsL := [(.long pp2)]) (rest := []) e647 (rm1 l Z a0 hw pp2 h0) (W := 0) (by decide) (by decide) (by rw [hml]; rfl) (lenOf pd_2 rfl) (Nat.le_of_eq rfl) (hb hby at_155) (by decide) (by decide) rfl ?_
    rintro T648 v648 L648 X648 ⟨rfl, e648, rfl⟩
    rw [List.append_nil] at X648
    obtain ⟨f1, hf1⟩ : ∃ z, z = (pp2.toInt32) := ⟨_, rfl⟩
    rw [← hf1]
    refine E.istore (q := 160) (l' := #[.val (.long pp0), .second, .val (.long pp1), .second, .val (.long pp2), .second, .val (.long pp3), .second, .val (.long pp4), .second, .val (.long pp5), .second, .val (.int bv), .val (.int bw), .val (.int br), .val (.int ct), .val (.int nn), .val (.int cl), .val (.int s0), .val (.int e0_), .val (.int c0), .val (.int d0), .val (.int s1), .val (.int e1), .val (.int cc1), .val (.int d1), .val (.int f0), .val (.int t0), .val (.int w0), .val (.int r0), .val (.int f1), .unset, .unset, .unset, .unset, .unset, .unset, .unset, .unset]) X648 hx (hb hby at_158) rfl ?_
    refine E.lload (q := 162) X648 hx (hb hby at_160) rfl ?_
    refine Ends.callS X648 hx hZ hown (hw _ (List.mem_of_getElem? (i := 4) rfl)) (hw _ (List.mem_of_getElem? (i := 5) rfl)) (hw _ (List.mem_of_getElem? (i := 2) rfl)) (hw _ (List.mem_of_getElem? (i := 6) rfl)) (by decide) (argsL := [(.long pp2)]) (rest := []) e648 (rm2 l Z a0 hw pp2 h0) (W := 0) (by decide) (by decide) (by rw [hml]; rfl) (lenOf pd_2 rfl) (Nat.le_of_eq rfl) (hb hby at_162) (by decide) (by decide) rfl ?_
    rintro T649 v649 L649 X649 ⟨rfl, e649, rfl⟩
    rw [List.append_nil] at X649
    obtain ⟨t1, ht1⟩ : ∃ z, z = (own_hi pp2) := ⟨_, rfl⟩
    rw [← ht1]
    refine E.istore (q := 167) (l' := #[.val (.long pp0), .second, .val (.long pp1), .second, .val (.long pp2), .second, .val (.long pp3), .second, .val (.long pp4), .second, .val (.long pp5), .second, .val (.int bv), .val (.int bw), .val (.int br), .val (.int ct), .val (.int nn), .val (.int cl), .val (.int s0), .val (.int e0_), .val (.int c0), .val (.int d0), .val (.int s1), .val (.int e1), .val (.int cc1), .val (.int d1), .val (.int f0), .val (.int t0), .val (.int w0), .val (.int r0), .val (.int f1), .val (.int t1), .unset, .unset, .unset, .unset, .unset, .unset, .unset]) X649 hx (hb hby at_165) rfl ?_
    refine E.lload (q := 169) X649 hx (hb hby at_167) rfl ?_
    refine Ends.callS X649 hx hZ hown (hw _ (List.mem_of_getElem? (i := 0) rfl)) (hw _ (List.mem_of_getElem? (i := 1) rfl)) (hw _ (List.mem_of_getElem? (i := 2) rfl)) (hw _ (List.mem_of_getElem? (i := 3) rfl)) (by decide) (argsL := [(.long pp3)]) (rest := []) e649 (rm1 l Z a0 hw pp3 h0) (W := 0) (by decide) (by decide) (by rw [hml]; rfl) (lenOf pd_2 rfl) (Nat.le_of_eq rfl) (hb hby at_169) (by decide) (by decide) rfl ?_
    rintro T650 v650 L650 X650 ⟨rfl, e650, rfl⟩
    rw [List.append_nil] at X650
    obtain ⟨w1, hw1⟩ : ∃ z, z = (pp3.toInt32) := ⟨_, rfl⟩
    rw [← hw1]
    refine E.istore (q := 174) (l' := #[.val (.long pp0), .second, .val (.long pp1), .second, .val (.long pp2), .second, .val (.long pp3), .second, .val (.long pp4), .second, .val (.long pp5), .second, .val (.int bv), .val (.int bw), .val (.int br), .val (.int ct), .val (.int nn), .val (.int cl), .val (.int s0), .val (.int e0_), .val (.int c0), .val (.int d0), .val (.int s1), .val (.int e1), .val (.int cc1), .val (.int d1), .val (.int f0), .val (.int t0), .val (.int w0), .val (.int r0), .val (.int f1), .val (.int t1), .val (.int w1), .unset, .unset, .unset, .unset, .unset, .unset]) X650 hx (hb hby at_172) rfl ?_
    refine E.lload (q := 176) X650 hx (hb hby at_174) rfl ?_
    refine Ends.callS X650 hx hZ hown (hw _ (List.mem_of_getElem? (i := 4) rfl)) (hw _ (List.mem_of_getElem? (i := 5) rfl)) (hw _ (List.mem_of_getElem? (i := 2) rfl)) (hw _ (List.mem_of_getElem? (i := 6) rfl)) (by decide) (argsL := [(.long pp3)]) (rest := []) e650 (rm2 l Z a0 hw pp3 h0) (W := 0) (by decide) (by decide) (by rw [hml]; rfl) (lenOf pd_2 rfl) (Nat.le_of_eq rfl) (hb hby at_176) (by decide) (by decide) rfl ?_
    rintro T651 v651 L651 X651 ⟨rfl, e651, rfl⟩
    rw [List.append_nil] at X651
    obtain ⟨r1, hr1⟩ : ∃ z, z = (own_hi pp3) := ⟨_, rfl⟩
    rw [← hr1]
    refine E.istore (q := 181) (l' := #[.val (.long pp0), .second, .val (.long pp1), .second, .val (.long pp2), .second, .val (.long pp3), .second, .val (.long pp4), .second, .val (.long pp5), .second, .val (.int bv), .val (.int bw), .val (.int br), .val (.int ct), .val (.int nn), .val (.int cl), .val (.int s0), .val (.int e0_), .val (.int c0), .val (.int d0), .val (.int s1), .val (.int e1), .val (.int cc1), .val (.int d1), .val (.int f0), .val (.int t0), .val (.int w0), .val (.int r0), .val (.int f1), .val (.int t1), .val (.int w1), .val (.int r1), .unset, .unset, .unset, .unset, .unset]) X651 hx (hb hby at_179) rfl ?_
    refine E.iconst (q := 182) (v := (4 : Int32)) X651 hx (hb hby at_181) rfl ?_
    refine Ends.newA X651 hx hZ (hw _ (List.mem_of_getElem? (i := 7) rfl)) e651 (hb hby at_182) (N := 4) rfl (by decide) (by decide) (by decide) ?_
    intro T652 h652 b652 g652 X652 e652 E652 A652
    have ge_b652 : h0.size ≤ b652 := Nat.le_trans O0.le (Nat.le_of_eq g652.symm)
    have O652 := O0.ext E652
    have V652 : Ary Z h652 b652 .int [(.int (0 : Int32)), (.int (0 : Int32)), (.int (0 : Int32)), (.int (0 : Int32))] := A652
    refine E.dup (q := 185) X652 hx (hb hby at_184) rfl ?_
    refine E.iconst (q := 186) (v := (0 : Int32)) X652 hx (hb hby at_185) rfl ?_
    refine E.iload (q := 188) X652 hx (hb hby at_186) rfl ?_
    refine Ends.ist X652 hx hZ e652 V652 (i := 0) rfl (show 0 < 4 from by decide) (hb hby at_188) ?_
    intro T653 h653 X653 e653 W653 V653
    have V653 : Ary Z h653 b652 .int [(.int bv), (.int (0 : Int32)), (.int (0 : Int32)), (.int (0 : Int32))] := V653
    have O653 := O652.wr W653 (Or.inr ge_b652)
    refine E.dup (q := 190) X653 hx (hb hby at_189) rfl ?_
    refine E.iconst (q := 191) (v := (1 : Int32)) X653 hx (hb hby at_190) rfl ?_
    refine E.iload (q := 193) X653 hx (hb hby at_191) rfl ?_
    refine Ends.ist X653 hx hZ e653 V653 (i := 1) rfl (show 1 < 4 from by decide) (hb hby at_193) ?_
    intro T654 h654 X654 e654 W654 V654
    have V654 : Ary Z h654 b652 .int [(.int bv), (.int bv), (.int (0 : Int32)), (.int (0 : Int32))] := V654
    have O654 := O653.wr W654 (Or.inr ge_b652)
    refine E.dup (q := 195) X654 hx (hb hby at_194) rfl ?_
    refine E.iconst (q := 196) (v := (2 : Int32)) X654 hx (hb hby at_195) rfl ?_
    refine E.iload (q := 198) X654 hx (hb hby at_196) rfl ?_
    refine Ends.ist X654 hx hZ e654 V654 (i := 2) rfl (show 2 < 4 from by decide) (hb hby at_198) ?_
    intro T655 h655 X655 e655 W655 V655
    have V655 : Ary Z h655 b652 .int [(.int bv), (.int bv), (.int bw), (.int (0 : Int32))] := V655
    have O655 := O654.wr W655 (Or.inr ge_b652)
    refine E.dup (q := 200) X655 hx (hb hby at_199) rfl ?_
    refine E.iconst (q := 201) (v := (3 : Int32)) X655 hx (hb hby at_200) rfl ?_
    refine E.iload (q := 203) X655 hx (hb hby at_201) rfl ?_
    refine Ends.ist X655 hx hZ e655 V655 (i := 3) rfl (show 3 < 4 from by decide) (hb hby at_203) ?_
    intro T656 h656 X656 e656 W656 V656
    have V656 : Ary Z h656 b652 .int [(.int bv), (.int bv), (.int bw), (.int br)] := V656
    have O656 := O655.wr W656 (Or.inr ge_b652)
    refine E.astore (q := 206) (l' := #[.val (.long pp0), .second, .val (.long pp1), .second, .val (.long pp2), .second, .val (.long pp3), .second, .val (.long pp4), .second, .val (.long pp5), .second, .val (.int bv), .val (.int bw), .val (.int br), .val (.int ct), .val (.int nn), .val (.int cl), .val (.int s0), .val (.int e0_), .val (.int c0), .val (.int d0), .val (.int s1), .val (.int e1), .val (.int cc1), .val (.int d1), .val (.int f0), .val (.int t0), .val (.int w0), .val (.int r0), .val (.int f1), .val (.int t1), .val (.int w1), .val (.int r1), .val (.ref b652), .unset, .unset, .unset, .unset]) X656 hx (hb hby at_204) rfl rfl ?_
    rcases hcl with hcl | hcl
    · subst hcl
      rcases hN with hN | hN | hN
      · subst hN
        show Ends p e below s _ _ _ T656 (mkF m 206 #[.val (.long pp0), .second, .val (.long pp1), .second, .val (.long pp2), .second, .val (.long pp3), .second, .val (.long pp4), .second, .val (.long pp5), .second, .val (.int bv), .val (.int bw), .val (.int br), .val (.int ct), .val (.int (0 : Int32)), .val (.int (0 : Int32)), .val (.int s0), .val (.int e0_), .val (.int c0), .val (.int d0), .val (.int s1), .val (.int e1), .val (.int cc1), .val (.int d1), .val (.int f0), .val (.int t0), .val (.int w0), .val (.int r0), .val (.int f1), .val (.int t1), .val (.int w1), .val (.int r1), .val (.ref b652), .unset, .unset, .unset, .unset] [])
        refine Ends.newC X656 hx hZ hown (hw _ (List.mem_of_getElem? (i := 8) rfl)) (hw _ (List.mem_of_getElem? (i := 9) rfl)) (hw _ (List.mem_of_getElem? (i := 10) rfl)) e656 (hb hby at_206) (by decide) (by decide) ?_
        intro T657 h657 b657 g657 X657 e657 E657 A657 D657
        have ge_b657 : h0.size ≤ b657 := Nat.le_trans O656.le (Nat.le_of_eq g657.symm)
        have O657 := O656.ext E657
        have F657_numbers : Fld Z h657 b657 "com/example/hourline/hourline/network/EdgeValues" "numbers" "[[I" .null := D657 (Or.inr (hw _ (List.mem_of_getElem? (i := 27) rfl))) (ty := (.array (.array .int))) (by decide)
        have F657_measures : Fld Z h657 b657 "com/example/hourline/hourline/network/EdgeValues" "measures" "[[D" .null := D657 (Or.inr (hw _ (List.mem_of_getElem? (i := 29) rfl))) (ty := (.array (.array .double))) (by decide)
        have F657_size : Fld Z h657 b657 "com/example/hourline/hourline/network/EdgeValues" "size" "I" (.int (0 : Int32)) := D657 (Or.inl (hw _ (List.mem_of_getElem? (i := 31) rfl))) (ty := .int) (by decide)
        refine E.dup (q := 210) X657 hx (hb hby at_209) rfl ?_
        refine E.iconst (q := 211) (v := (3 : Int32)) X657 hx (hb hby at_210) rfl ?_
        refine E.iload (q := 213) X657 hx (hb hby at_211) rfl ?_
        have f658 := V656.ext E657
        refine Ends.callI X657 hx hZ hown (hw _ (List.mem_of_getElem? (i := 11) rfl)) (hw _ (List.mem_of_getElem? (i := 12) rfl)) (hw _ (List.mem_of_getElem? (i := 10) rfl)) (hw _ (List.mem_of_getElem? (i := 13) rfl)) rfl (by decide) (argsL := [(.int (3 : Int32)), (.int (0 : Int32))]) (rest := [(.ref b657)]) e657 (rmC0 l Z a0 hw b657 h657 A657 F657_numbers F657_measures F657_size (own_sta_keep S0 O657.1 own_ns0)) (W := 1) (by decide) (by decide) (by rw [hml]; rfl) (lenOf pd_3 rfl) (Nat.le_of_eq rfl) (hb hby at_213) (by decide) (by decide) rfl ?_
        rintro T659 v659 L659 X659 ⟨rfl, nA, mA, n0, n1, n2, n3, m0, m1, hO659, ⟨ch0, ch1, ch2, ch3, ch4, ch5, ch6, ch7⟩, hge659, hFn659, hFm659, hFs659, VnA_659, VmA_659, Vn0_659, Vn1_659, Vn2_659, Vn3_659, Vm0_659, Vm1_659⟩
        have e659 : T659.heap = T659.heap := rfl
        have O659 := O657.call hO659 (allS (Or.inr ge_b657) all0)
        have ge_nA : h0.size ≤ nA := Nat.le_trans O657.le hge659
        have ge_mA : h0.size ≤ mA := Nat.le_trans ge_nA (Nat.le_of_lt ch1)
        have ge_n0 : h0.size ≤ n0 := Nat.le_trans ge_mA (Nat.le_of_lt ch2)
        have ge_n1 : h0.size ≤ n1 := Nat.le_trans ge_n0 (Nat.le_of_lt ch3)
        have ge_n2 : h0.size ≤ n2 := Nat.le_trans ge_n1 (Nat.le_of_lt ch4)
        have ge_n3 : h0.size ≤ n3 := Nat.le_trans ge_n2 (Nat.le_of_lt ch5)
        have ge_m0 : h0.size ≤ m0 := Nat.le_trans ge_n3 (Nat.le_of_lt ch6)
        have ge_m1 : h0.size ≤ m1 := Nat.le_trans ge_m0 (Nat.le_of_lt ch7)
        have nb_nA : b652 < nA := Nat.lt_of_lt_of_le f658.lt hge659
        refine E.astore (q := 218) (l' := #[.val (.long pp0), .second, .val (.long pp1), .second, .val (.long pp2), .second, .val (.long pp3), .second, .val (.long pp4), .second, .val (.long pp5), .second, .val (.int bv), .val (.int bw), .val (.int br), .val (.int ct), .val (.int (0 : Int32)), .val (.int (0 : Int32)), .val (.int s0), .val (.int e0_), .val (.int c0), .val (.int d0), .val (.int s1), .val (.int e1), .val (.int cc1), .val (.int d1), .val (.int f0), .val (.int t0), .val (.int w0), .val (.int r0), .val (.int f1), .val (.int t1), .val (.int w1), .val (.int r1), .val (.ref b652), .val (.ref b657), .unset, .unset, .unset]) X659 hx (hb hby at_216) rfl rfl ?_
        refine E.iload (q := 220) X659 hx (hb hby at_218) rfl ?_
        refine E.iconst (q := 221) (v := (1 : Int32)) X659 hx (hb hby at_220) rfl ?_
        refine E.icmpY (q := 269) X659 hx (hb hby at_221) (XT.ii_lt_t (by decide)) ?_
        refine E.iload (q := 271) X659 hx (hb hby at_269) rfl ?_
        refine E.iconst (q := 272) (v := (2 : Int32)) X659 hx (hb hby at_271) rfl ?_
        refine E.icmpY (q := 320) X659 hx (hb hby at_272) (XT.ii_lt_t (by decide)) ?_
        refine E.iload (q := 322) X659 hx (hb hby at_320) rfl ?_
        refine E.iload (q := 324) X659 hx (hb hby at_322) rfl ?_
        obtain ⟨lq660, cq660, sq660, Xp660, Op660, hcq660, hsq660⟩ : ∃ (lq : List Loc) (cq sq : Nat), Stand p l e room_1 s m #[(.long pp0), (.long pp1), (.long pp2), (.long pp3), (.long pp4), (.long pp5)] below meth c T659 lq cq sq ∧ Ok h0 T659.heap [] lq ∧ cq = 10 ∧ sq = 31 := ⟨_, _, _, X659, O659, rfl, rfl⟩
        subst hcq660 hsq660
        have JF0 : ∀ (Tf0 : State), Stand p l e room_1 s m #[(.long pp0), (.long pp1), (.long pp2), (.long pp3), (.long pp4), (.long pp5)] below meth c Tf0 lq660 10 31 → Tf0.heap = T659.heap → ∀ F0 : Int32, F0 = own_nb [own_bi f0 bv, own_bi t0 bv, own_bi w0 bw, own_bi r0 br, own_bd (own_m s0), own_bd (own_m e0_)] → Ends p e below s (fun v h L => v = some (.int 1) ∧ Fr h0.size L) room_1.cells room_1.slots Tf0 (mkF m 402 #[.val (.long pp0), .second, .val (.long pp1), .second, .val (.long pp2), .second, .val (.long pp3), .second, .val (.long pp4), .second, .val (.long pp5), .second, .val (.int bv), .val (.int bw), .val (.int br), .val (.int ct), .val (.int (0 : Int32)), .val (.int (0 : Int32)), .val (.int s0), .val (.int e0_), .val (.int c0), .val (.int d0), .val (.int s1), .val (.int e1), .val (.int cc1), .val (.int d1), .val (.int f0), .val (.int t0), .val (.int w0), .val (.int r0), .val (.int f1), .val (.int t1), .val (.int w1), .val (.int r1), .val (.ref b652), .val (.ref b657), .unset, .unset, .unset] [(.int F0)]) := by
          intro Tf0 Xf0 ef0 F0 hF0
          refine E.istore (q := 404) (l' := #[.val (.long pp0), .second, .val (.long pp1), .second, .val (.long pp2), .second, .val (.long pp3), .second, .val (.long pp4), .second, .val (.long pp5), .second, .val (.int bv), .val (.int bw), .val (.int br), .val (.int ct), .val (.int (0 : Int32)), .val (.int (0 : Int32)), .val (.int s0), .val (.int e0_), .val (.int c0), .val (.int d0), .val (.int s1), .val (.int e1), .val (.int cc1), .val (.int d1), .val (.int f0), .val (.int t0), .val (.int w0), .val (.int r0), .val (.int f1), .val (.int t1), .val (.int w1), .val (.int r1), .val (.ref b652), .val (.ref b657), .val (.int F0), .unset, .unset]) Xf0 hx (hb hby at_402) rfl ?_
          refine E.iload (q := 406) Xf0 hx (hb hby at_404) rfl ?_
          refine E.iload (q := 408) Xf0 hx (hb hby at_406) rfl ?_
          obtain ⟨lq673, cq673, sq673, Xp673, Op673, hcq673, hsq673⟩ : ∃ (lq : List Loc) (cq sq : Nat), Stand p l e room_1 s m #[(.long pp0), (.long pp1), (.long pp2), (.long pp3), (.long pp4), (.long pp5)] below meth c Tf0 lq cq sq ∧ Ok h0 T659.heap [] lq ∧ cq = 10 ∧ sq = 31 := ⟨_, _, _, Xf0, Op660, rfl, rfl⟩
          subst hcq673 hsq673
          have JF1 : ∀ (Tf1 : State), Stand p l e room_1 s m #[(.long pp0), (.long pp1), (.long pp2), (.long pp3), (.long pp4), (.long pp5)] below meth c Tf1 lq673 10 31 → Tf1.heap = T659.heap → ∀ F1 : Int32, F1 = own_nb [own_bi f1 bv, own_bi t1 bv, own_bi w1 bw, own_bi r1 br, own_bd (own_m s1), own_bd (own_m e1)] → Ends p e below s (fun v h L => v = some (.int 1) ∧ Fr h0.size L) room_1.cells room_1.slots Tf1 (mkF m 486 #[.val (.long pp0), .second, .val (.long pp1), .second, .val (.long pp2), .second, .val (.long pp3), .second, .val (.long pp4), .second, .val (.long pp5), .second, .val (.int bv), .val (.int bw), .val (.int br), .val (.int ct), .val (.int (0 : Int32)), .val (.int (0 : Int32)), .val (.int s0), .val (.int e0_), .val (.int c0), .val (.int d0), .val (.int s1), .val (.int e1), .val (.int cc1), .val (.int d1), .val (.int f0), .val (.int t0), .val (.int w0), .val (.int r0), .val (.int f1), .val (.int t1), .val (.int w1), .val (.int r1), .val (.ref b652), .val (.ref b657), .val (.int F0), .unset, .unset] [(.int F1)]) := by
            intro Tf1 Xf1 ef1 F1 hF1
            refine E.istore (q := 488) (l' := #[.val (.long pp0), .second, .val (.long pp1), .second, .val (.long pp2), .second, .val (.long pp3), .second, .val (.long pp4), .second, .val (.long pp5), .second, .val (.int bv), .val (.int bw), .val (.int br), .val (.int ct), .val (.int (0 : Int32)), .val (.int (0 : Int32)), .val (.int s0), .val (.int e0_), .val (.int c0), .val (.int d0), .val (.int s1), .val (.int e1), .val (.int cc1), .val (.int d1), .val (.int f0), .val (.int t0), .val (.int w0), .val (.int r0), .val (.int f1), .val (.int t1), .val (.int w1), .val (.int r1), .val (.ref b652), .val (.ref b657), .val (.int F0), .val (.int F1), .unset]) Xf1 hx (hb hby at_486) rfl ?_
            refine E.iload (q := 490) Xf1 hx (hb hby at_488) rfl ?_
            refine E.ifN (q := 493) Xf1 hx (hb hby at_490) (XT.i0_ne_f (by decide)) ?_
            refine E.iconst (q := 494) (v := (0 : Int32)) Xf1 hx (hb hby at_493) rfl ?_
            refine E.istore (q := 496) (l' := #[.val (.long pp0), .second, .val (.long pp1), .second, .val (.long pp2), .second, .val (.long pp3), .second, .val (.long pp4), .second, .val (.long pp5), .second, .val (.int bv), .val (.int bw), .val (.int br), .val (.int ct), .val (.int (0 : Int32)), .val (.int (0 : Int32)), .val (.int s0), .val (.int e0_), .val (.int c0), .val (.int d0), .val (.int s1), .val (.int e1), .val (.int cc1), .val (.int d1), .val (.int f0), .val (.int t0), .val (.int w0), .val (.int r0), .val (.int f1), .val (.int t1), .val (.int w1), .val (.int r1), .val (.ref b652), .val (.ref b657), .val (.int F0), .val (.int F1), .val (.int (0 : Int32))]) Xf1 hx (hb hby at_494) rfl ?_
            refine E.goto (q := 536) Xf1 hx (hb hby at_496) ?_
            refine E.aload (q := 538) Xf1 hx (hb hby at_536) rfl rfl ?_
            refine E.aload (q := 540) Xf1 hx (hb hby at_538) rfl rfl ?_
            have f686 := A657.keep hO659.1
            have f687 := f658.keep hO659.1 (ninS (Nat.ne_of_lt (Nat.lt_of_lt_of_eq V656.lt g657.symm)) nin0)
            refine Ends.callV Xf1 hx hZ hown (hw _ (List.mem_of_getElem? (i := 54) rfl)) (hw _ (List.mem_of_getElem? (i := 55) rfl)) (hw _ (List.mem_of_getElem? (i := 57) rfl)) (hw _ (List.mem_of_getElem? (i := 56) rfl)) (hw _ (List.mem_of_getElem? (i := 10) rfl)) (hw _ (List.mem_of_getElem? (i := 58) rfl)) (by decide) (argsL := [(.ref b652)]) (rest := []) ef1 f686 (rmF0 l Z a0 hw b657 b652 (0 : Int32) nA mA n0 n1 n2 n3 m0 m1 (0 : Int32) (0 : Int32) (0 : Int32) (0 : Int32) (0 : Int32) (0 : Int32) (0 : Int32) (0 : Int32) (0 : Int32) (0 : Int32) (0 : Int32) (0 : Int32) (0 : UInt64) (0 : UInt64) (0 : UInt64) (0 : UInt64) (0 : UInt64) (0 : UInt64) bv bv bw br (own_bi (0 : Int32) bv, own_bi (0 : Int32) bv) (own_bi (0 : Int32) bv, own_bi (0 : Int32) bv) (own_bi (0 : Int32) bw, own_bi (0 : Int32) bw) (own_bi (0 : Int32) br, own_bi (0 : Int32) br) (own_bd (0 : UInt64), own_bd (0 : UInt64)) (own_bd (0 : UInt64), own_bd (0 : UInt64)) T659.heap (by decide) f686 hFn659 hFm659 hFs659 (own_sta_keep S0 Op673.1 own_ns0) f687 VnA_659 VmA_659 Vn0_659 Vn1_659 Vn2_659 Vn3_659 Vm0_659 Vm1_659 rfl rfl rfl rfl rfl rfl) (W := 0) (by decide) (by decide) (by rw [hml]; rfl) (lenOf pd_6 rfl) (Nat.le_of_eq rfl) (hb hby at_540) (by decide) (by decide) rfl ?_
            rintro T688 v688 L688 X688 ⟨rfl, e688, rfl⟩
            rw [List.append_nil] at X688
            refine E.iload (q := 545) X688 hx (hb hby at_543) rfl ?_
            refine E.icmpN (q := 548) X688 hx (hb hby at_545) (XT.ii_ne_f (own_f0 _)) ?_
            refine E.aload (q := 550) X688 hx (hb hby at_548) rfl rfl ?_
            refine Ends.callV X688 hx hZ hown (hw _ (List.mem_of_getElem? (i := 59) rfl)) (hw _ (List.mem_of_getElem? (i := 60) rfl)) (hw _ (List.mem_of_getElem? (i := 62) rfl)) (hw _ (List.mem_of_getElem? (i := 61) rfl)) (hw _ (List.mem_of_getElem? (i := 10) rfl)) (hw _ (List.mem_of_getElem? (i := 63) rfl)) (by decide) (argsL := []) (rest := []) e688 f686 (rm11 l Z a0 hw b657 (0 : Int32) T659.heap hFs659) (W := 0) (by decide) (by decide) (by rw [hml]; rfl) (lenOf pd_7 rfl) (Nat.le_of_eq rfl) (hb hby at_550) (by decide) (by decide) rfl ?_
            rintro T689 v689 L689 X689 ⟨rfl, e689, rfl⟩
            rw [List.append_nil] at X689
            refine E.iload (q := 555) X689 hx (hb hby at_553) rfl ?_
            refine E.icmpN (q := 558) X689 hx (hb hby at_555) (XT.ii_ne_f (by decide)) ?_
            refine E.iconst (q := 559) (v := (1 : Int32)) X689 hx (hb hby at_558) rfl ?_
            refine E.goto (q := 563) X689 hx (hb hby at_559) ?_
            exact Ends.retS X689 hx hlk hret (by simp) rfl (hb hby at_563) (by decide) (by decide) ⟨rfl, Op673.fr⟩
          refine Ends.callS Xp673 hx hZ hown (hw _ (List.mem_of_getElem? (i := 51) rfl)) (hw _ (List.mem_of_getElem? (i := 52) rfl)) (hw _ (List.mem_of_getElem? (i := 2) rfl)) (hw _ (List.mem_of_getElem? (i := 53) rfl)) (by decide) (argsL := [(.int f1), (.int bv)]) (rest := []) ef0 (rm9 l Z a0 hw f1 bv T659.heap) (W := 0) (by decide) (by decide) (by rw [hml]; rfl) (lenOf pd_4 rfl) (Nat.le_of_eq rfl) (hb hby at_408) (by decide) (by decide) rfl ?_
          rintro T674 v674 L674 X674 ⟨rfl, e674, rfl⟩
          rw [List.append_nil] at X674
          by_cases hb675_1 : (own_in f1 bv) = (0 : Int32)
          · refine E.ifY (q := 485) X674 hx (hb hby at_411) (XT.i0_eq_t hb675_1) ?_
            have mhb675_1 := (own_in_bi).1 hb675_1
            refine E.iconst (q := 486) (v := (0 : Int32)) X674 hx (hb hby at_485) rfl ?_
            exact JF1 T674 X674 e674 _ (own_nb0 (by simp [mhb675_1]))
          · refine E.ifN (q := 414) X674 hx (hb hby at_411) (XT.i0_eq_f hb675_1) ?_
            have mhb675_1 := (own_in_bi).2 hb675_1
            refine E.iload (q := 416) X674 hx (hb hby at_414) rfl ?_
            refine E.iload (q := 418) X674 hx (hb hby at_416) rfl ?_
            refine Ends.callS X674 hx hZ hown (hw _ (List.mem_of_getElem? (i := 51) rfl)) (hw _ (List.mem_of_getElem? (i := 52) rfl)) (hw _ (List.mem_of_getElem? (i := 2) rfl)) (hw _ (List.mem_of_getElem? (i := 53) rfl)) (by decide) (argsL := [(.int t1), (.int bv)]) (rest := []) e674 (rm9 l Z a0 hw t1 bv T659.heap) (W := 0) (by decide) (by decide) (by rw [hml]; rfl) (lenOf pd_4 rfl) (Nat.le_of_eq rfl) (hb hby at_418) (by decide) (by decide) rfl ?_
            rintro T676 v676 L676 X676 ⟨rfl, e676, rfl⟩
            rw [List.append_nil] at X676
            by_cases hb677_1 : (own_in t1 bv) = (0 : Int32)
            · refine E.ifY (q := 485) X676 hx (hb hby at_421) (XT.i0_eq_t hb677_1) ?_
              have mhb677_1 := (own_in_bi).1 hb677_1
              refine E.iconst (q := 486) (v := (0 : Int32)) X676 hx (hb hby at_485) rfl ?_
              exact JF1 T676 X676 e676 _ (own_nb0 (by simp [mhb675_1, mhb677_1]))
            · refine E.ifN (q := 424) X676 hx (hb hby at_421) (XT.i0_eq_f hb677_1) ?_
              have mhb677_1 := (own_in_bi).2 hb677_1
              refine E.iload (q := 426) X676 hx (hb hby at_424) rfl ?_
              refine E.iload (q := 428) X676 hx (hb hby at_426) rfl ?_
              refine Ends.callS X676 hx hZ hown (hw _ (List.mem_of_getElem? (i := 51) rfl)) (hw _ (List.mem_of_getElem? (i := 52) rfl)) (hw _ (List.mem_of_getElem? (i := 2) rfl)) (hw _ (List.mem_of_getElem? (i := 53) rfl)) (by decide) (argsL := [(.int w1), (.int bw)]) (rest := []) e676 (rm9 l Z a0 hw w1 bw T659.heap) (W := 0) (by decide) (by decide) (by rw [hml]; rfl) (lenOf pd_4 rfl) (Nat.le_of_eq rfl) (hb hby at_428) (by decide) (by decide) rfl ?_
              rintro T678 v678 L678 X678 ⟨rfl, e678, rfl⟩
              rw [List.append_nil] at X678
              by_cases hb679_1 : (own_in w1 bw) = (0 : Int32)
              · refine E.ifY (q := 485) X678 hx (hb hby at_431) (XT.i0_eq_t hb679_1) ?_
                have mhb679_1 := (own_in_bi).1 hb679_1
                refine E.iconst (q := 486) (v := (0 : Int32)) X678 hx (hb hby at_485) rfl ?_
                exact JF1 T678 X678 e678 _ (own_nb0 (by simp [mhb675_1, mhb677_1, mhb679_1]))
              · refine E.ifN (q := 434) X678 hx (hb hby at_431) (XT.i0_eq_f hb679_1) ?_
                have mhb679_1 := (own_in_bi).2 hb679_1
                refine E.iload (q := 436) X678 hx (hb hby at_434) rfl ?_
                refine E.iload (q := 438) X678 hx (hb hby at_436) rfl ?_
                refine Ends.callS X678 hx hZ hown (hw _ (List.mem_of_getElem? (i := 51) rfl)) (hw _ (List.mem_of_getElem? (i := 52) rfl)) (hw _ (List.mem_of_getElem? (i := 2) rfl)) (hw _ (List.mem_of_getElem? (i := 53) rfl)) (by decide) (argsL := [(.int r1), (.int br)]) (rest := []) e678 (rm9 l Z a0 hw r1 br T659.heap) (W := 0) (by decide) (by decide) (by rw [hml]; rfl) (lenOf pd_4 rfl) (Nat.le_of_eq rfl) (hb hby at_438) (by decide) (by decide) rfl ?_
                rintro T680 v680 L680 X680 ⟨rfl, e680, rfl⟩
                rw [List.append_nil] at X680
                by_cases hb681_1 : (own_in r1 br) = (0 : Int32)
                · refine E.ifY (q := 485) X680 hx (hb hby at_441) (XT.i0_eq_t hb681_1) ?_
                  have mhb681_1 := (own_in_bi).1 hb681_1
                  refine E.iconst (q := 486) (v := (0 : Int32)) X680 hx (hb hby at_485) rfl ?_
                  exact JF1 T680 X680 e680 _ (own_nb0 (by simp [mhb675_1, mhb677_1, mhb679_1, mhb681_1]))
                · refine E.ifN (q := 444) X680 hx (hb hby at_441) (XT.i0_eq_f hb681_1) ?_
                  have mhb681_1 := (own_in_bi).2 hb681_1
                  refine E.iload (q := 446) X680 hx (hb hby at_444) rfl ?_
                  refine Ends.callS X680 hx hZ hown (hw _ (List.mem_of_getElem? (i := 72) rfl)) (hw _ (List.mem_of_getElem? (i := 73) rfl)) (hw _ (List.mem_of_getElem? (i := 2) rfl)) (hw _ (List.mem_of_getElem? (i := 74) rfl)) (by decide) (argsL := [(.int s1)]) (rest := []) e680 (rm13 l Z a0 hw s1 T659.heap) (W := 0) (by decide) (by decide) (by rw [hml]; rfl) (lenOf pd_5 rfl) (Nat.le_of_eq rfl) (hb hby at_446) (by decide) (by decide) rfl ?_
                  rintro T682 v682 L682 X682 ⟨rfl, e682, rfl⟩
                  rw [List.append_nil] at X682
                  by_cases hb683_1 : (own_fi s1) = (0 : Int32)
                  · refine E.ifY (q := 485) X682 hx (hb hby at_449) (XT.i0_eq_t hb683_1) ?_
                    have mhb683_1 := (own_fi_bd ks1).1 hb683_1
                    refine E.iconst (q := 486) (v := (0 : Int32)) X682 hx (hb hby at_485) rfl ?_
                    exact JF1 T682 X682 e682 _ (own_nb0 (by simp [mhb675_1, mhb677_1, mhb679_1, mhb681_1, mhb683_1]))
                  · refine E.ifN (q := 452) X682 hx (hb hby at_449) (XT.i0_eq_f hb683_1) ?_
                    have mhb683_1 := (own_fi_bd ks1).2 hb683_1
                    refine E.iload (q := 454) X682 hx (hb hby at_452) rfl ?_
                    refine Ends.callS X682 hx hZ hown (hw _ (List.mem_of_getElem? (i := 72) rfl)) (hw _ (List.mem_of_getElem? (i := 73) rfl)) (hw _ (List.mem_of_getElem? (i := 2) rfl)) (hw _ (List.mem_of_getElem? (i := 74) rfl)) (by decide) (argsL := [(.int e1)]) (rest := []) e682 (rm13 l Z a0 hw e1 T659.heap) (W := 0) (by decide) (by decide) (by rw [hml]; rfl) (lenOf pd_5 rfl) (Nat.le_of_eq rfl) (hb hby at_454) (by decide) (by decide) rfl ?_
                    rintro T684 v684 L684 X684 ⟨rfl, e684, rfl⟩
                    rw [List.append_nil] at X684
                    by_cases hb685_1 : (own_fi e1) = (0 : Int32)
                    · refine E.ifY (q := 485) X684 hx (hb hby at_457) (XT.i0_eq_t hb685_1) ?_
                      have mhb685_1 := (own_fi_bd ke1).1 hb685_1
                      refine E.iconst (q := 486) (v := (0 : Int32)) X684 hx (hb hby at_485) rfl ?_
                      exact JF1 T684 X684 e684 _ (own_nb0 (by simp [mhb675_1, mhb677_1, mhb679_1, mhb681_1, mhb683_1, mhb685_1]))
                    · refine E.ifN (q := 460) X684 hx (hb hby at_457) (XT.i0_eq_f hb685_1) ?_
                      have mhb685_1 := (own_fi_bd ke1).2 hb685_1
                      refine E.iload (q := 462) X684 hx (hb hby at_460) rfl ?_
                      refine E.ifY (q := 481) X684 hx (hb hby at_462) (XT.i0_eq_t (by decide)) ?_
                      refine E.iconst (q := 482) (v := (1 : Int32)) X684 hx (hb hby at_481) rfl ?_
                      refine E.goto (q := 486) X684 hx (hb hby at_482) ?_
                      exact JF1 T684 X684 e684 _ (own_nb1 (by simp [mhb675_1, mhb677_1, mhb679_1, mhb681_1, mhb683_1, mhb685_1]))
        refine Ends.callS Xp660 hx hZ hown (hw _ (List.mem_of_getElem? (i := 51) rfl)) (hw _ (List.mem_of_getElem? (i := 52) rfl)) (hw _ (List.mem_of_getElem? (i := 2) rfl)) (hw _ (List.mem_of_getElem? (i := 53) rfl)) (by decide) (argsL := [(.int f0), (.int bv)]) (rest := []) e659 (rm9 l Z a0 hw f0 bv T659.heap) (W := 0) (by decide) (by decide) (by rw [hml]; rfl) (lenOf pd_4 rfl) (Nat.le_of_eq rfl) (hb hby at_324) (by decide) (by decide) rfl ?_
        rintro T661 v661 L661 X661 ⟨rfl, e661, rfl⟩
        rw [List.append_nil] at X661
        by_cases hb662_0 : (own_in f0 bv) = (0 : Int32)
        · refine E.ifY (q := 401) X661 hx (hb hby at_327) (XT.i0_eq_t hb662_0) ?_
          have mhb662_0 := (own_in_bi).1 hb662_0
          refine E.iconst (q := 402) (v := (0 : Int32)) X661 hx (hb hby at_401) rfl ?_
          exact JF0 T661 X661 e661 _ (own_nb0 (by simp [mhb662_0]))
        · refine E.ifN (q := 330) X661 hx (hb hby at_327) (XT.i0_eq_f hb662_0) ?_
          have mhb662_0 := (own_in_bi).2 hb662_0
          refine E.iload (q := 332) X661 hx (hb hby at_330) rfl ?_
          refine E.iload (q := 334) X661 hx (hb hby at_332) rfl ?_
          refine Ends.callS X661 hx hZ hown (hw _ (List.mem_of_getElem? (i := 51) rfl)) (hw _ (List.mem_of_getElem? (i := 52) rfl)) (hw _ (List.mem_of_getElem? (i := 2) rfl)) (hw _ (List.mem_of_getElem? (i := 53) rfl)) (by decide) (argsL := [(.int t0), (.int bv)]) (rest := []) e661 (rm9 l Z a0 hw t0 bv T659.heap) (W := 0) (by decide) (by decide) (by rw [hml]; rfl) (lenOf pd_4 rfl) (Nat.le_of_eq rfl) (hb hby at_334) (by decide) (by decide) rfl ?_
          rintro T663 v663 L663 X663 ⟨rfl, e663, rfl⟩
          rw [List.append_nil] at X663
          by_cases hb664_0 : (own_in t0 bv) = (0 : Int32)
          · refine E.ifY (q := 401) X663 hx (hb hby at_337) (XT.i0_eq_t hb664_0) ?_
            have mhb664_0 := (own_in_bi).1 hb664_0
            refine E.iconst (q := 402) (v := (0 : Int32)) X663 hx (hb hby at_401) rfl ?_
            exact JF0 T663 X663 e663 _ (own_nb0 (by simp [mhb662_0, mhb664_0]))
          · refine E.ifN (q := 340) X663 hx (hb hby at_337) (XT.i0_eq_f hb664_0) ?_
            have mhb664_0 := (own_in_bi).2 hb664_0
            refine E.iload (q := 342) X663 hx (hb hby at_340) rfl ?_
            refine E.iload (q := 344) X663 hx (hb hby at_342) rfl ?_
            refine Ends.callS X663 hx hZ hown (hw _ (List.mem_of_getElem? (i := 51) rfl)) (hw _ (List.mem_of_getElem? (i := 52) rfl)) (hw _ (List.mem_of_getElem? (i := 2) rfl)) (hw _ (List.mem_of_getElem? (i := 53) rfl)) (by decide) (argsL := [(.int w0), (.int bw)]) (rest := []) e663 (rm9 l Z a0 hw w0 bw T659.heap) (W := 0) (by decide) (by decide) (by rw [hml]; rfl) (lenOf pd_4 rfl) (Nat.le_of_eq rfl) (hb hby at_344) (by decide) (by decide) rfl ?_
            rintro T665 v665 L665 X665 ⟨rfl, e665, rfl⟩
            rw [List.append_nil] at X665
            by_cases hb666_0 : (own_in w0 bw) = (0 : Int32)
            · refine E.ifY (q := 401) X665 hx (hb hby at_347) (XT.i0_eq_t hb666_0) ?_
              have mhb666_0 := (own_in_bi).1 hb666_0
              refine E.iconst (q := 402) (v := (0 : Int32)) X665 hx (hb hby at_401) rfl ?_
              exact JF0 T665 X665 e665 _ (own_nb0 (by simp [mhb662_0, mhb664_0, mhb666_0]))
            · refine E.ifN (q := 350) X665 hx (hb hby at_347) (XT.i0_eq_f hb666_0) ?_
              have mhb666_0 := (own_in_bi).2 hb666_0
              refine E.iload (q := 352) X665 hx (hb hby at_350) rfl ?_
              refine E.iload (q := 354) X665 hx (hb hby at_352) rfl ?_
              refine Ends.callS X665 hx hZ hown (hw _ (List.mem_of_getElem? (i := 51) rfl)) (hw _ (List.mem_of_getElem? (i := 52) rfl)) (hw _ (List.mem_of_getElem? (i := 2) rfl)) (hw _ (List.mem_of_getElem? (i := 53) rfl)) (by decide) (argsL := [(.int r0), (.int br)]) (rest := []) e665 (rm9 l Z a0 hw r0 br T659.heap) (W := 0) (by decide) (by decide) (by rw [hml]; rfl) (lenOf pd_4 rfl) (Nat.le_of_eq rfl) (hb hby at_354) (by decide) (by decide) rfl ?_
              rintro T667 v667 L667 X667 ⟨rfl, e667, rfl⟩
              rw [List.append_nil] at X667
              by_cases hb668_0 : (own_in r0 br) = (0 : Int32)
              · refine E.ifY (q := 401) X667 hx (hb hby at_357) (XT.i0_eq_t hb668_0) ?_
                have mhb668_0 := (own_in_bi).1 hb668_0
                refine E.iconst (q := 402) (v := (0 : Int32)) X667 hx (hb hby at_401) rfl ?_
                exact JF0 T667 X667 e667 _ (own_nb0 (by simp [mhb662_0, mhb664_0, mhb666_0, mhb668_0]))
              · refine E.ifN (q := 360) X667 hx (hb hby at_357) (XT.i0_eq_f hb668_0) ?_
                have mhb668_0 := (own_in_bi).2 hb668_0
                refine E.iload (q := 362) X667 hx (hb hby at_360) rfl ?_
                refine Ends.callS X667 hx hZ hown (hw _ (List.mem_of_getElem? (i := 72) rfl)) (hw _ (List.mem_of_getElem? (i := 73) rfl)) (hw _ (List.mem_of_getElem? (i := 2) rfl)) (hw _ (List.mem_of_getElem? (i := 74) rfl)) (by decide) (argsL := [(.int s0)]) (rest := []) e667 (rm13 l Z a0 hw s0 T659.heap) (W := 0) (by decide) (by decide) (by rw [hml]; rfl) (lenOf pd_5 rfl) (Nat.le_of_eq rfl) (hb hby at_362) (by decide) (by decide) rfl ?_
                rintro T669 v669 L669 X669 ⟨rfl, e669, rfl⟩
                rw [List.append_nil] at X669
                by_cases hb670_0 : (own_fi s0) = (0 : Int32)
                · refine E.ifY (q := 401) X669 hx (hb hby at_365) (XT.i0_eq_t hb670_0) ?_
                  have mhb670_0 := (own_fi_bd ks0).1 hb670_0
                  refine E.iconst (q := 402) (v := (0 : Int32)) X669 hx (hb hby at_401) rfl ?_
                  exact JF0 T669 X669 e669 _ (own_nb0 (by simp [mhb662_0, mhb664_0, mhb666_0, mhb668_0, mhb670_0]))
                · refine E.ifN (q := 368) X669 hx (hb hby at_365) (XT.i0_eq_f hb670_0) ?_
                  have mhb670_0 := (own_fi_bd ks0).2 hb670_0
                  refine E.iload (q := 370) X669 hx (hb hby at_368) rfl ?_
                  refine Ends.callS X669 hx hZ hown (hw _ (List.mem_of_getElem? (i := 72) rfl)) (hw _ (List.mem_of_getElem? (i := 73) rfl)) (hw _ (List.mem_of_getElem? (i := 2) rfl)) (hw _ (List.mem_of_getElem? (i := 74) rfl)) (by decide) (argsL := [(.int e0_)]) (rest := []) e669 (rm13 l Z a0 hw e0_ T659.heap) (W := 0) (by decide) (by decide) (by rw [hml]; rfl) (lenOf pd_5 rfl) (Nat.le_of_eq rfl) (hb hby at_370) (by decide) (by decide) rfl ?_
                  rintro T671 v671 L671 X671 ⟨rfl, e671, rfl⟩
                  rw [List.append_nil] at X671
                  by_cases hb672_0 : (own_fi e0_) = (0 : Int32)
                  · refine E.ifY (q := 401) X671 hx (hb hby at_373) (XT.i0_eq_t hb672_0) ?_
                    have mhb672_0 := (own_fi_bd ke0_).1 hb672_0
                    refine E.iconst (q := 402) (v := (0 : Int32)) X671 hx (hb hby at_401) rfl ?_
                    exact JF0 T671 X671 e671 _ (own_nb0 (by simp [mhb662_0, mhb664_0, mhb666_0, mhb668_0, mhb670_0, mhb672_0]))
                  · refine E.ifN (q := 376) X671 hx (hb hby at_373) (XT.i0_eq_f hb672_0) ?_
                    have mhb672_0 := (own_fi_bd ke0_).2 hb672_0
                    refine E.iload (q := 378) X671 hx (hb hby at_376) rfl ?_
                    refine E.ifY (q := 397) X671 hx (hb hby at_378) (XT.i0_eq_t (by decide)) ?_
                    refine E.iconst (q := 398) (v := (1 : Int32)) X671 hx (hb hby at_397) rfl ?_
                    refine E.goto (q := 402) X671 hx (hb hby at_398) ?_
                    exact JF0 T671 X671 e671 _ (own_nb1 (by simp [mhb662_0, mhb664_0, mhb666_0, mhb668_0, mhb670_0, mhb672_0]))
      · subst hN
        show Ends p e below s _ _ _ T656 (mkF m 206 #[.val (.long pp0), .second, .val (.long pp1), .second, .val (.long pp2), .second, .val (.long pp3), .second, .val (.long pp4), .second, .val (.long pp5), .second, .val (.int bv), .val (.int bw), .val (.int br), .val (.int ct), .val (.int (1 : Int32)), .val (.int (0 : Int32)), .val (.int s0), .val (.int e0_), .val (.int c0), .val (.int d0), .val (.int s1), .val (.int e1), .val (.int cc1), .val (.int d1), .val (.int f0), .val (.int t0), .val (.int w0), .val (.int r0), .val (.int f1), .val (.int t1), .val (.int w1), .val (.int r1), .val (.ref b652), .unset, .unset, .unset, .unset] [])
        refine Ends.newC X656 hx hZ hown (hw _ (List.mem_of_getElem? (i := 8) rfl)) (hw _ (List.mem_of_getElem? (i := 9) rfl)) (hw _ (List.mem_of_getElem? (i := 10) rfl)) e656 (hb hby at_206) (by decide) (by decide) ?_
        intro T690 h690 b690 g690 X690 e690 E690 A690 D690
        have ge_b690 : h0.size ≤ b690 := Nat.le_trans O656.le (Nat.le_of_eq g690.symm)
        have O690 := O656.ext E690
        have F690_numbers : Fld Z h690 b690 "com/example/hourline/hourline/network/EdgeValues" "numbers" "[[I" .null := D690 (Or.inr (hw _ (List.mem_of_getElem? (i := 27) rfl))) (ty := (.array (.array .int))) (by decide)
        have F690_measures : Fld Z h690 b690 "com/example/hourline/hourline/network/EdgeValues" "measures" "[[D" .null := D690 (Or.inr (hw _ (List.mem_of_getElem? (i := 29) rfl))) (ty := (.array (.array .double))) (by decide)
        have F690_size : Fld Z h690 b690 "com/example/hourline/hourline/network/EdgeValues" "size" "I" (.int (0 : Int32)) := D690 (Or.inl (hw _ (List.mem_of_getElem? (i := 31) rfl))) (ty := .int) (by decide)
        refine E.dup (q := 210) X690 hx (hb hby at_209) rfl ?_
        refine E.iconst (q := 211) (v := (3 : Int32)) X690 hx (hb hby at_210) rfl ?_
        refine E.iload (q := 213) X690 hx (hb hby at_211) rfl ?_
        have f691 := V656.ext E690
        refine Ends.callI X690 hx hZ hown (hw _ (List.mem_of_getElem? (i := 11) rfl)) (hw _ (List.mem_of_getElem? (i := 12) rfl)) (hw _ (List.mem_of_getElem? (i := 10) rfl)) (hw _ (List.mem_of_getElem? (i := 13) rfl)) rfl (by decide) (argsL := [(.int (3 : Int32)), (.int (0 : Int32))]) (rest := [(.ref b690)]) e690 (rmC0 l Z a0 hw b690 h690 A690 F690_numbers F690_measures F690_size (own_sta_keep S0 O690.1 own_ns0)) (W := 1) (by decide) (by decide) (by rw [hml]; rfl) (lenOf pd_3 rfl) (Nat.le_of_eq rfl) (hb hby at_213) (by decide) (by decide) rfl ?_
        rintro T692 v692 L692 X692 ⟨rfl, nA, mA, n0, n1, n2, n3, m0, m1, hO692, ⟨ch0, ch1, ch2, ch3, ch4, ch5, ch6, ch7⟩, hge692, hFn692, hFm692, hFs692, VnA_692, VmA_692, Vn0_692, Vn1_692, Vn2_692, Vn3_692, Vm0_692, Vm1_692⟩
        have e692 : T692.heap = T692.heap := rfl
        have O692 := O690.call hO692 (allS (Or.inr ge_b690) all0)
        have ge_nA : h0.size ≤ nA := Nat.le_trans O690.le hge692
        have ge_mA : h0.size ≤ mA := Nat.le_trans ge_nA (Nat.le_of_lt ch1)
        have ge_n0 : h0.size ≤ n0 := Nat.le_trans ge_mA (Nat.le_of_lt ch2)
        have ge_n1 : h0.size ≤ n1 := Nat.le_trans ge_n0 (Nat.le_of_lt ch3)
        have ge_n2 : h0.size ≤ n2 := Nat.le_trans ge_n1 (Nat.le_of_lt ch4)
        have ge_n3 : h0.size ≤ n3 := Nat.le_trans ge_n2 (Nat.le_of_lt ch5)
        have ge_m0 : h0.size ≤ m0 := Nat.le_trans ge_n3 (Nat.le_of_lt ch6)
        have ge_m1 : h0.size ≤ m1 := Nat.le_trans ge_m0 (Nat.le_of_lt ch7)
        have nb_nA : b652 < nA := Nat.lt_of_lt_of_le f691.lt hge692
        refine E.astore (q := 218) (l' := #[.val (.long pp0), .second, .val (.long pp1), .second, .val (.long pp2), .second, .val (.long pp3), .second, .val (.long pp4), .second, .val (.long pp5), .second, .val (.int bv), .val (.int bw), .val (.int br), .val (.int ct), .val (.int (1 : Int32)), .val (.int (0 : Int32)), .val (.int s0), .val (.int e0_), .val (.int c0), .val (.int d0), .val (.int s1), .val (.int e1), .val (.int cc1), .val (.int d1), .val (.int f0), .val (.int t0), .val (.int w0), .val (.int r0), .val (.int f1), .val (.int t1), .val (.int w1), .val (.int r1), .val (.ref b652), .val (.ref b690), .unset, .unset, .unset]) X692 hx (hb hby at_216) rfl rfl ?_
        refine E.iload (q := 220) X692 hx (hb hby at_218) rfl ?_
        refine E.iconst (q := 221) (v := (1 : Int32)) X692 hx (hb hby at_220) rfl ?_
        refine E.icmpN (q := 224) X692 hx (hb hby at_221) (XT.ii_lt_f (by decide)) ?_
        refine E.aload (q := 226) X692 hx (hb hby at_224) rfl rfl ?_
        refine E.iload (q := 228) X692 hx (hb hby at_226) rfl ?_
        refine E.iload (q := 230) X692 hx (hb hby at_228) rfl ?_
        refine E.iload (q := 232) X692 hx (hb hby at_230) rfl ?_
        refine E.iload (q := 234) X692 hx (hb hby at_232) rfl ?_
        refine E.iload (q := 236) X692 hx (hb hby at_234) rfl ?_
        refine Ends.callS X692 hx hZ hown (hw _ (List.mem_of_getElem? (i := 35) rfl)) (hw _ (List.mem_of_getElem? (i := 36) rfl)) (hw _ (List.mem_of_getElem? (i := 2) rfl)) (hw _ (List.mem_of_getElem? (i := 37) rfl)) (by decide) (argsL := [(.int s0)]) (rest := [(.int r0), (.int w0), (.int t0), (.int f0), (.ref b690)]) e692 (rm6 l Z a0 hw s0 T692.heap) (W := 5) (by decide) (by decide) (by rw [hml]; rfl) (lenOf pd_8 rfl) (Nat.le_of_eq rfl) (hb hby at_236) (by decide) (by decide) rfl ?_
        rintro T693 v693 L693 X693 ⟨rfl, e693, rfl⟩
        rw [List.append_nil] at X693
        refine E.iload (q := 241) X693 hx (hb hby at_239) rfl ?_
        refine Ends.callS X693 hx hZ hown (hw _ (List.mem_of_getElem? (i := 35) rfl)) (hw _ (List.mem_of_getElem? (i := 36) rfl)) (hw _ (List.mem_of_getElem? (i := 2) rfl)) (hw _ (List.mem_of_getElem? (i := 37) rfl)) (by decide) (argsL := [(.int e0_)]) (rest := [(.double (own_m s0)), (.int r0), (.int w0), (.int t0), (.int f0), (.ref b690)]) e693 (rm6 l Z a0 hw e0_ T692.heap) (W := 7) (by decide) (by decide) (by rw [hml]; rfl) (lenOf pd_8 rfl) (Nat.le_of_eq rfl) (hb hby at_241) (by decide) (by decide) rfl ?_
        rintro T694 v694 L694 X694 ⟨rfl, e694, rfl⟩
        rw [List.append_nil] at X694
        have f695 := A690.keep hO692.1
        refine Ends.callV X694 hx hZ hown (hw _ (List.mem_of_getElem? (i := 40) rfl)) (hw _ (List.mem_of_getElem? (i := 41) rfl)) (hw _ (List.mem_of_getElem? (i := 43) rfl)) (hw _ (List.mem_of_getElem? (i := 42) rfl)) (hw _ (List.mem_of_getElem? (i := 10) rfl)) (hw _ (List.mem_of_getElem? (i := 44) rfl)) (by decide) (argsL := [(.int f0), (.int t0), (.int w0), (.int r0), (.double (own_m s0)), (.double (own_m e0_))]) (rest := []) e694 f695 (rmA0 l Z a0 hw b690 f0 t0 w0 r0 (own_m s0) (own_m e0_) nA mA n0 n1 n2 n3 m0 m1 [] (.int (0 : Int32)) (.int (0 : Int32)) (.int (0 : Int32)) (.int (0 : Int32)) (.int (0 : Int32)) (.int (0 : Int32)) (.int (0 : Int32)) (.int (0 : Int32)) (.int (0 : Int32)) (.int (0 : Int32)) (.int (0 : Int32)) (.int (0 : Int32)) (.double (0 : UInt64)) (.double (0 : UInt64)) (.double (0 : UInt64)) (.double (0 : UInt64)) (.double (0 : UInt64)) (.double (0 : UInt64)) .null .null .null .null .null .null T692.heap ⟨ch0, ch1, ch2, ch3, ch4, ch5, ch6, ch7⟩ f695 hFn692 hFm692 VnA_692 VmA_692 hFs692 Vn0_692 Vn1_692 Vn2_692 Vn3_692 Vm0_692 Vm1_692) (W := 0) (by decide) (by decide) (by rw [hml]; rfl) (lenOf pd_9 rfl) (Nat.le_of_eq rfl) (hb hby at_244) (by decide) (by decide) rfl ?_
        rintro T696 v696 L696 X696 ⟨⟨z696, rfl⟩, hO696, hFs696, hFn696, hFm696, hn0696, hn1696, hn2696, hn3696, hm0696, hm1696⟩
        have e696 : T696.heap = T696.heap := rfl
        have O696 := O692.call hO696 (allS (Or.inr ge_b690) (allS (Or.inr ge_n0) (allS (Or.inr ge_n1) (allS (Or.inr ge_n2) (allS (Or.inr ge_n3) (allS (Or.inr ge_m0) (allS (Or.inr ge_m1) all0)))))))
        refine E.pop (q := 248) X696 hx (hb hby at_247) rfl ?_
        refine E.iload (q := 250) X696 hx (hb hby at_248) rfl ?_
        refine E.ifY (q := 269) X696 hx (hb hby at_250) (XT.i0_eq_t (by decide)) ?_
        refine E.iload (q := 271) X696 hx (hb hby at_269) rfl ?_
        refine E.iconst (q := 272) (v := (2 : Int32)) X696 hx (hb hby at_271) rfl ?_
        refine E.icmpY (q := 320) X696 hx (hb hby at_272) (XT.ii_lt_t (by decide)) ?_
        refine E.iload (q := 322) X696 hx (hb hby at_320) rfl ?_
        refine E.iload (q := 324) X696 hx (hb hby at_322) rfl ?_
        obtain ⟨lq697, cq697, sq697, Xp697, Op697, hcq697, hsq697⟩ : ∃ (lq : List Loc) (cq sq : Nat), Stand p l e room_1 s m #[(.long pp0), (.long pp1), (.long pp2), (.long pp3), (.long pp4), (.long pp5)] below meth c T696 lq cq sq ∧ Ok h0 T696.heap [] lq ∧ cq = 10 ∧ sq = 31 := ⟨_, _, _, X696, O696, rfl, rfl⟩
        subst hcq697 hsq697
        have JF0 : ∀ (Tf0 : State), Stand p l e room_1 s m #[(.long pp0), (.long pp1), (.long pp2), (.long pp3), (.long pp4), (.long pp5)] below meth c Tf0 lq697 10 31 → Tf0.heap = T696.heap → ∀ F0 : Int32, F0 = own_nb [own_bi f0 bv, own_bi t0 bv, own_bi w0 bw, own_bi r0 br, own_bd (own_m s0), own_bd (own_m e0_)] → Ends p e below s (fun v h L => v = some (.int 1) ∧ Fr h0.size L) room_1.cells room_1.slots Tf0 (mkF m 402 #[.val (.long pp0), .second, .val (.long pp1), .second, .val (.long pp2), .second, .val (.long pp3), .second, .val (.long pp4), .second, .val (.long pp5), .second, .val (.int bv), .val (.int bw), .val (.int br), .val (.int ct), .val (.int (1 : Int32)), .val (.int (0 : Int32)), .val (.int s0), .val (.int e0_), .val (.int c0), .val (.int d0), .val (.int s1), .val (.int e1), .val (.int cc1), .val (.int d1), .val (.int f0), .val (.int t0), .val (.int w0), .val (.int r0), .val (.int f1), .val (.int t1), .val (.int w1), .val (.int r1), .val (.ref b652), .val (.ref b690), .unset, .unset, .unset] [(.int F0)]) := by
          intro Tf0 Xf0 ef0 F0 hF0
          refine E.istore (q := 404) (l' := #[.val (.long pp0), .second, .val (.long pp1), .second, .val (.long pp2), .second, .val (.long pp3), .second, .val (.long pp4), .second, .val (.long pp5), .second, .val (.int bv), .val (.int bw), .val (.int br), .val (.int ct), .val (.int (1 : Int32)), .val (.int (0 : Int32)), .val (.int s0), .val (.int e0_), .val (.int c0), .val (.int d0), .val (.int s1), .val (.int e1), .val (.int cc1), .val (.int d1), .val (.int f0), .val (.int t0), .val (.int w0), .val (.int r0), .val (.int f1), .val (.int t1), .val (.int w1), .val (.int r1), .val (.ref b652), .val (.ref b690), .val (.int F0), .unset, .unset]) Xf0 hx (hb hby at_402) rfl ?_
          refine E.iload (q := 406) Xf0 hx (hb hby at_404) rfl ?_
          refine E.iload (q := 408) Xf0 hx (hb hby at_406) rfl ?_
          obtain ⟨lq710, cq710, sq710, Xp710, Op710, hcq710, hsq710⟩ : ∃ (lq : List Loc) (cq sq : Nat), Stand p l e room_1 s m #[(.long pp0), (.long pp1), (.long pp2), (.long pp3), (.long pp4), (.long pp5)] below meth c Tf0 lq cq sq ∧ Ok h0 T696.heap [] lq ∧ cq = 10 ∧ sq = 31 := ⟨_, _, _, Xf0, Op697, rfl, rfl⟩
          subst hcq710 hsq710
          have JF1 : ∀ (Tf1 : State), Stand p l e room_1 s m #[(.long pp0), (.long pp1), (.long pp2), (.long pp3), (.long pp4), (.long pp5)] below meth c Tf1 lq710 10 31 → Tf1.heap = T696.heap → ∀ F1 : Int32, F1 = own_nb [own_bi f1 bv, own_bi t1 bv, own_bi w1 bw, own_bi r1 br, own_bd (own_m s1), own_bd (own_m e1)] → Ends p e below s (fun v h L => v = some (.int 1) ∧ Fr h0.size L) room_1.cells room_1.slots Tf1 (mkF m 486 #[.val (.long pp0), .second, .val (.long pp1), .second, .val (.long pp2), .second, .val (.long pp3), .second, .val (.long pp4), .second, .val (.long pp5), .second, .val (.int bv), .val (.int bw), .val (.int br), .val (.int ct), .val (.int (1 : Int32)), .val (.int (0 : Int32)), .val (.int s0), .val (.int e0_), .val (.int c0), .val (.int d0), .val (.int s1), .val (.int e1), .val (.int cc1), .val (.int d1), .val (.int f0), .val (.int t0), .val (.int w0), .val (.int r0), .val (.int f1), .val (.int t1), .val (.int w1), .val (.int r1), .val (.ref b652), .val (.ref b690), .val (.int F0), .unset, .unset] [(.int F1)]) := by
            intro Tf1 Xf1 ef1 F1 hF1
            refine E.istore (q := 488) (l' := #[.val (.long pp0), .second, .val (.long pp1), .second, .val (.long pp2), .second, .val (.long pp3), .second, .val (.long pp4), .second, .val (.long pp5), .second, .val (.int bv), .val (.int bw), .val (.int br), .val (.int ct), .val (.int (1 : Int32)), .val (.int (0 : Int32)), .val (.int s0), .val (.int e0_), .val (.int c0), .val (.int d0), .val (.int s1), .val (.int e1), .val (.int cc1), .val (.int d1), .val (.int f0), .val (.int t0), .val (.int w0), .val (.int r0), .val (.int f1), .val (.int t1), .val (.int w1), .val (.int r1), .val (.ref b652), .val (.ref b690), .val (.int F0), .val (.int F1), .unset]) Xf1 hx (hb hby at_486) rfl ?_
            refine E.iload (q := 490) Xf1 hx (hb hby at_488) rfl ?_
            refine E.ifY (q := 499) Xf1 hx (hb hby at_490) (XT.i0_ne_t (by decide)) ?_
            refine E.iload (q := 501) Xf1 hx (hb hby at_499) rfl ?_
            by_cases hz0 : F0 = (0 : Int32)
            · refine E.ifN (q := 504) Xf1 hx (hb hby at_501) (XT.i0_ne_f hz0) ?_
              refine E.iconst (q := 505) (v := (0 : Int32)) Xf1 hx (hb hby at_504) rfl ?_
              refine E.istore (q := 507) (l' := #[.val (.long pp0), .second, .val (.long pp1), .second, .val (.long pp2), .second, .val (.long pp3), .second, .val (.long pp4), .second, .val (.long pp5), .second, .val (.int bv), .val (.int bw), .val (.int br), .val (.int ct), .val (.int (1 : Int32)), .val (.int (0 : Int32)), .val (.int s0), .val (.int e0_), .val (.int c0), .val (.int d0), .val (.int s1), .val (.int e1), .val (.int cc1), .val (.int d1), .val (.int f0), .val (.int t0), .val (.int w0), .val (.int r0), .val (.int f1), .val (.int t1), .val (.int w1), .val (.int r1), .val (.ref b652), .val (.ref b690), .val (.int F0), .val (.int F1), .val (.int (0 : Int32))]) Xf1 hx (hb hby at_505) rfl ?_
              refine E.goto (q := 536) Xf1 hx (hb hby at_507) ?_
              refine E.aload (q := 538) Xf1 hx (hb hby at_536) rfl rfl ?_
              refine E.aload (q := 540) Xf1 hx (hb hby at_538) rfl rfl ?_
              have f723 := f695.keep hO696.1
              have f724 := f691.keep hO692.1 (ninS (Nat.ne_of_lt (Nat.lt_of_lt_of_eq V656.lt g690.symm)) nin0)
              have f725 := f724.keep hO696.1 (ninS (Nat.ne_of_lt (Nat.lt_of_lt_of_eq V656.lt g690.symm)) (ninS (Nat.ne_of_lt (Nat.lt_trans nb_nA (Nat.lt_trans ch1 ch2))) (ninS (Nat.ne_of_lt (Nat.lt_trans nb_nA (Nat.lt_trans ch1 (Nat.lt_trans ch2 ch3)))) (ninS (Nat.ne_of_lt (Nat.lt_trans nb_nA (Nat.lt_trans ch1 (Nat.lt_trans ch2 (Nat.lt_trans ch3 ch4))))) (ninS (Nat.ne_of_lt (Nat.lt_trans nb_nA (Nat.lt_trans ch1 (Nat.lt_trans ch2 (Nat.lt_trans ch3 (Nat.lt_trans ch4 ch5)))))) (ninS (Nat.ne_of_lt (Nat.lt_trans nb_nA (Nat.lt_trans ch1 (Nat.lt_trans ch2 (Nat.lt_trans ch3 (Nat.lt_trans ch4 (Nat.lt_trans ch5 ch6))))))) (ninS (Nat.ne_of_lt (Nat.lt_trans nb_nA (Nat.lt_trans ch1 (Nat.lt_trans ch2 (Nat.lt_trans ch3 (Nat.lt_trans ch4 (Nat.lt_trans ch5 (Nat.lt_trans ch6 ch7)))))))) nin0)))))))
              have f726 := VnA_692.keep hO696.1 (ninS (Ne.symm (Nat.ne_of_lt ch0)) (ninS (Nat.ne_of_lt (Nat.lt_trans ch1 ch2)) (ninS (Nat.ne_of_lt (Nat.lt_trans ch1 (Nat.lt_trans ch2 ch3))) (ninS (Nat.ne_of_lt (Nat.lt_trans ch1 (Nat.lt_trans ch2 (Nat.lt_trans ch3 ch4)))) (ninS (Nat.ne_of_lt (Nat.lt_trans ch1 (Nat.lt_trans ch2 (Nat.lt_trans ch3 (Nat.lt_trans ch4 ch5))))) (ninS (Nat.ne_of_lt (Nat.lt_trans ch1 (Nat.lt_trans ch2 (Nat.lt_trans ch3 (Nat.lt_trans ch4 (Nat.lt_trans ch5 ch6)))))) (ninS (Nat.ne_of_lt (Nat.lt_trans ch1 (Nat.lt_trans ch2 (Nat.lt_trans ch3 (Nat.lt_trans ch4 (Nat.lt_trans ch5 (Nat.lt_trans ch6 ch7))))))) nin0)))))))
              have f727 := VmA_692.keep hO696.1 (ninS (Ne.symm (Nat.ne_of_lt (Nat.lt_trans ch0 ch1))) (ninS (Nat.ne_of_lt ch2) (ninS (Nat.ne_of_lt (Nat.lt_trans ch2 ch3)) (ninS (Nat.ne_of_lt (Nat.lt_trans ch2 (Nat.lt_trans ch3 ch4))) (ninS (Nat.ne_of_lt (Nat.lt_trans ch2 (Nat.lt_trans ch3 (Nat.lt_trans ch4 ch5)))) (ninS (Nat.ne_of_lt (Nat.lt_trans ch2 (Nat.lt_trans ch3 (Nat.lt_trans ch4 (Nat.lt_trans ch5 ch6))))) (ninS (Nat.ne_of_lt (Nat.lt_trans ch2 (Nat.lt_trans ch3 (Nat.lt_trans ch4 (Nat.lt_trans ch5 (Nat.lt_trans ch6 ch7)))))) nin0)))))))
              refine Ends.callV Xf1 hx hZ hown (hw _ (List.mem_of_getElem? (i := 54) rfl)) (hw _ (List.mem_of_getElem? (i := 55) rfl)) (hw _ (List.mem_of_getElem? (i := 57) rfl)) (hw _ (List.mem_of_getElem? (i := 56) rfl)) (hw _ (List.mem_of_getElem? (i := 10) rfl)) (hw _ (List.mem_of_getElem? (i := 58) rfl)) (by decide) (argsL := [(.ref b652)]) (rest := []) ef1 f723 (rmF0 l Z a0 hw b690 b652 (1 : Int32) nA mA n0 n1 n2 n3 m0 m1 f0 (0 : Int32) (0 : Int32) t0 (0 : Int32) (0 : Int32) w0 (0 : Int32) (0 : Int32) r0 (0 : Int32) (0 : Int32) (own_m s0) (0 : UInt64) (0 : UInt64) (own_m e0_) (0 : UInt64) (0 : UInt64) bv bv bw br (own_bi f0 bv, own_bi (0 : Int32) bv) (own_bi t0 bv, own_bi (0 : Int32) bv) (own_bi w0 bw, own_bi (0 : Int32) bw) (own_bi r0 br, own_bi (0 : Int32) br) (own_bd (own_m s0), own_bd (0 : UInt64)) (own_bd (own_m e0_), own_bd (0 : UInt64)) T696.heap (by decide) f723 hFn696 hFm696 hFs696 (own_sta_keep S0 Op710.1 own_ns0) f725 f726 f727 hn0696 hn1696 hn2696 hn3696 hm0696 hm1696 rfl rfl rfl rfl rfl rfl) (W := 0) (by decide) (by decide) (by rw [hml]; rfl) (lenOf pd_6 rfl) (Nat.le_of_eq rfl) (hb hby at_540) (by decide) (by decide) rfl ?_
              rintro T728 v728 L728 X728 ⟨rfl, e728, rfl⟩
              rw [List.append_nil] at X728
              refine E.iload (q := 545) X728 hx (hb hby at_543) rfl ?_
              refine E.icmpN (q := 548) X728 hx (hb hby at_545) (XT.ii_ne_f (own_f10 (hF0.symm.trans hz0))) ?_
              refine E.aload (q := 550) X728 hx (hb hby at_548) rfl rfl ?_
              refine Ends.callV X728 hx hZ hown (hw _ (List.mem_of_getElem? (i := 59) rfl)) (hw _ (List.mem_of_getElem? (i := 60) rfl)) (hw _ (List.mem_of_getElem? (i := 62) rfl)) (hw _ (List.mem_of_getElem? (i := 61) rfl)) (hw _ (List.mem_of_getElem? (i := 10) rfl)) (hw _ (List.mem_of_getElem? (i := 63) rfl)) (by decide) (argsL := []) (rest := []) e728 f723 (rm11 l Z a0 hw b690 (1 : Int32) T696.heap hFs696) (W := 0) (by decide) (by decide) (by rw [hml]; rfl) (lenOf pd_7 rfl) (Nat.le_of_eq rfl) (hb hby at_550) (by decide) (by decide) rfl ?_
              rintro T729 v729 L729 X729 ⟨rfl, e729, rfl⟩
              rw [List.append_nil] at X729
              refine E.iload (q := 555) X729 hx (hb hby at_553) rfl ?_
              refine E.icmpN (q := 558) X729 hx (hb hby at_555) (XT.ii_ne_f (by decide)) ?_
              refine E.iconst (q := 559) (v := (1 : Int32)) X729 hx (hb hby at_558) rfl ?_
              refine E.goto (q := 563) X729 hx (hb hby at_559) ?_
              exact Ends.retS X729 hx hlk hret (by simp) rfl (hb hby at_563) (by decide) (by decide) ⟨rfl, Op710.fr⟩
            · refine E.ifY (q := 510) Xf1 hx (hb hby at_501) (XT.i0_ne_t hz0) ?_
              refine E.iload (q := 512) Xf1 hx (hb hby at_510) rfl ?_
              refine E.iconst (q := 513) (v := (1 : Int32)) Xf1 hx (hb hby at_512) rfl ?_
              refine E.icmpN (q := 516) Xf1 hx (hb hby at_513) (XT.ii_ne_f (by decide)) ?_
              refine E.iconst (q := 517) (v := (1 : Int32)) Xf1 hx (hb hby at_516) rfl ?_
              refine E.istore (q := 519) (l' := #[.val (.long pp0), .second, .val (.long pp1), .second, .val (.long pp2), .second, .val (.long pp3), .second, .val (.long pp4), .second, .val (.long pp5), .second, .val (.int bv), .val (.int bw), .val (.int br), .val (.int ct), .val (.int (1 : Int32)), .val (.int (0 : Int32)), .val (.int s0), .val (.int e0_), .val (.int c0), .val (.int d0), .val (.int s1), .val (.int e1), .val (.int cc1), .val (.int d1), .val (.int f0), .val (.int t0), .val (.int w0), .val (.int r0), .val (.int f1), .val (.int t1), .val (.int w1), .val (.int r1), .val (.ref b652), .val (.ref b690), .val (.int F0), .val (.int F1), .val (.int (1 : Int32))]) Xf1 hx (hb hby at_517) rfl ?_
              refine E.goto (q := 536) Xf1 hx (hb hby at_519) ?_
              refine E.aload (q := 538) Xf1 hx (hb hby at_536) rfl rfl ?_
              refine E.aload (q := 540) Xf1 hx (hb hby at_538) rfl rfl ?_
              have f730 := f695.keep hO696.1
              have f731 := f691.keep hO692.1 (ninS (Nat.ne_of_lt (Nat.lt_of_lt_of_eq V656.lt g690.symm)) nin0)
              have f732 := f731.keep hO696.1 (ninS (Nat.ne_of_lt (Nat.lt_of_lt_of_eq V656.lt g690.symm)) (ninS (Nat.ne_of_lt (Nat.lt_trans nb_nA (Nat.lt_trans ch1 ch2))) (ninS (Nat.ne_of_lt (Nat.lt_trans nb_nA (Nat.lt_trans ch1 (Nat.lt_trans ch2 ch3)))) (ninS (Nat.ne_of_lt (Nat.lt_trans nb_nA (Nat.lt_trans ch1 (Nat.lt_trans ch2 (Nat.lt_trans ch3 ch4))))) (ninS (Nat.ne_of_lt (Nat.lt_trans nb_nA (Nat.lt_trans ch1 (Nat.lt_trans ch2 (Nat.lt_trans ch3 (Nat.lt_trans ch4 ch5)))))) (ninS (Nat.ne_of_lt (Nat.lt_trans nb_nA (Nat.lt_trans ch1 (Nat.lt_trans ch2 (Nat.lt_trans ch3 (Nat.lt_trans ch4 (Nat.lt_trans ch5 ch6))))))) (ninS (Nat.ne_of_lt (Nat.lt_trans nb_nA (Nat.lt_trans ch1 (Nat.lt_trans ch2 (Nat.lt_trans ch3 (Nat.lt_trans ch4 (Nat.lt_trans ch5 (Nat.lt_trans ch6 ch7)))))))) nin0)))))))
              have f733 := VnA_692.keep hO696.1 (ninS (Ne.symm (Nat.ne_of_lt ch0)) (ninS (Nat.ne_of_lt (Nat.lt_trans ch1 ch2)) (ninS (Nat.ne_of_lt (Nat.lt_trans ch1 (Nat.lt_trans ch2 ch3))) (ninS (Nat.ne_of_lt (Nat.lt_trans ch1 (Nat.lt_trans ch2 (Nat.lt_trans ch3 ch4)))) (ninS (Nat.ne_of_lt (Nat.lt_trans ch1 (Nat.lt_trans ch2 (Nat.lt_trans ch3 (Nat.lt_trans ch4 ch5))))) (ninS (Nat.ne_of_lt (Nat.lt_trans ch1 (Nat.lt_trans ch2 (Nat.lt_trans ch3 (Nat.lt_trans ch4 (Nat.lt_trans ch5 ch6)))))) (ninS (Nat.ne_of_lt (Nat.lt_trans ch1 (Nat.lt_trans ch2 (Nat.lt_trans ch3 (Nat.lt_trans ch4 (Nat.lt_trans ch5 (Nat.lt_trans ch6 ch7))))))) nin0)))))))
              have f734 := VmA_692.keep hO696.1 (ninS (Ne.symm (Nat.ne_of_lt (Nat.lt_trans ch0 ch1))) (ninS (Nat.ne_of_lt ch2) (ninS (Nat.ne_of_lt (Nat.lt_trans ch2 ch3)) (ninS (Nat.ne_of_lt (Nat.lt_trans ch2 (Nat.lt_trans ch3 ch4))) (ninS (Nat.ne_of_lt (Nat.lt_trans ch2 (Nat.lt_trans ch3 (Nat.lt_trans ch4 ch5)))) (ninS (Nat.ne_of_lt (Nat.lt_trans ch2 (Nat.lt_trans ch3 (Nat.lt_trans ch4 (Nat.lt_trans ch5 ch6))))) (ninS (Nat.ne_of_lt (Nat.lt_trans ch2 (Nat.lt_trans ch3 (Nat.lt_trans ch4 (Nat.lt_trans ch5 (Nat.lt_trans ch6 ch7)))))) nin0)))))))
              refine Ends.callV Xf1 hx hZ hown (hw _ (List.mem_of_getElem? (i := 54) rfl)) (hw _ (List.mem_of_getElem? (i := 55) rfl)) (hw _ (List.mem_of_getElem? (i := 57) rfl)) (hw _ (List.mem_of_getElem? (i := 56) rfl)) (hw _ (List.mem_of_getElem? (i := 10) rfl)) (hw _ (List.mem_of_getElem? (i := 58) rfl)) (by decide) (argsL := [(.ref b652)]) (rest := []) ef1 f730 (rmF0 l Z a0 hw b690 b652 (1 : Int32) nA mA n0 n1 n2 n3 m0 m1 f0 (0 : Int32) (0 : Int32) t0 (0 : Int32) (0 : Int32) w0 (0 : Int32) (0 : Int32) r0 (0 : Int32) (0 : Int32) (own_m s0) (0 : UInt64) (0 : UInt64) (own_m e0_) (0 : UInt64) (0 : UInt64) bv bv bw br (own_bi f0 bv, own_bi (0 : Int32) bv) (own_bi t0 bv, own_bi (0 : Int32) bv) (own_bi w0 bw, own_bi (0 : Int32) bw) (own_bi r0 br, own_bi (0 : Int32) br) (own_bd (own_m s0), own_bd (0 : UInt64)) (own_bd (own_m e0_), own_bd (0 : UInt64)) T696.heap (by decide) f730 hFn696 hFm696 hFs696 (own_sta_keep S0 Op710.1 own_ns0) f732 f733 f734 hn0696 hn1696 hn2696 hn3696 hm0696 hm1696 rfl rfl rfl rfl rfl rfl) (W := 0) (by decide) (by decide) (by rw [hml]; rfl) (lenOf pd_6 rfl) (Nat.le_of_eq rfl) (hb hby at_540) (by decide) (by decide) rfl ?_
              rintro T735 v735 L735 X735 ⟨rfl, e735, rfl⟩
              rw [List.append_nil] at X735
              refine E.iload (q := 545) X735 hx (hb hby at_543) rfl ?_
              refine E.icmpN (q := 548) X735 hx (hb hby at_545) (XT.ii_ne_f (own_f11 (fun q => hz0 (hF0.trans q)))) ?_
              refine E.aload (q := 550) X735 hx (hb hby at_548) rfl rfl ?_
              refine Ends.callV X735 hx hZ hown (hw _ (List.mem_of_getElem? (i := 59) rfl)) (hw _ (List.mem_of_getElem? (i := 60) rfl)) (hw _ (List.mem_of_getElem? (i := 62) rfl)) (hw _ (List.mem_of_getElem? (i := 61) rfl)) (hw _ (List.mem_of_getElem? (i := 10) rfl)) (hw _ (List.mem_of_getElem? (i := 63) rfl)) (by decide) (argsL := []) (rest := []) e735 f730 (rm11 l Z a0 hw b690 (1 : Int32) T696.heap hFs696) (W := 0) (by decide) (by decide) (by rw [hml]; rfl) (lenOf pd_7 rfl) (Nat.le_of_eq rfl) (hb hby at_550) (by decide) (by decide) rfl ?_
              rintro T736 v736 L736 X736 ⟨rfl, e736, rfl⟩
              rw [List.append_nil] at X736
              refine E.iload (q := 555) X736 hx (hb hby at_553) rfl ?_
              refine E.icmpN (q := 558) X736 hx (hb hby at_555) (XT.ii_ne_f (by decide)) ?_
              refine E.iconst (q := 559) (v := (1 : Int32)) X736 hx (hb hby at_558) rfl ?_
              refine E.goto (q := 563) X736 hx (hb hby at_559) ?_
              exact Ends.retS X736 hx hlk hret (by simp) rfl (hb hby at_563) (by decide) (by decide) ⟨rfl, Op710.fr⟩
          refine Ends.callS Xp710 hx hZ hown (hw _ (List.mem_of_getElem? (i := 51) rfl)) (hw _ (List.mem_of_getElem? (i := 52) rfl)) (hw _ (List.mem_of_getElem? (i := 2) rfl)) (hw _ (List.mem_of_getElem? (i := 53) rfl)) (by decide) (argsL := [(.int f1), (.int bv)]) (rest := []) ef0 (rm9 l Z a0 hw f1 bv T696.heap) (W := 0) (by decide) (by decide) (by rw [hml]; rfl) (lenOf pd_4 rfl) (Nat.le_of_eq rfl) (hb hby at_408) (by decide) (by decide) rfl ?_
          rintro T711 v711 L711 X711 ⟨rfl, e711, rfl⟩
          rw [List.append_nil] at X711
          by_cases hb712_1 : (own_in f1 bv) = (0 : Int32)
          · refine E.ifY (q := 485) X711 hx (hb hby at_411) (XT.i0_eq_t hb712_1) ?_
            have mhb712_1 := (own_in_bi).1 hb712_1
            refine E.iconst (q := 486) (v := (0 : Int32)) X711 hx (hb hby at_485) rfl ?_
            exact JF1 T711 X711 e711 _ (own_nb0 (by simp [mhb712_1]))
          · refine E.ifN (q := 414) X711 hx (hb hby at_411) (XT.i0_eq_f hb712_1) ?_
            have mhb712_1 := (own_in_bi).2 hb712_1
            refine E.iload (q := 416) X711 hx (hb hby at_414) rfl ?_
            refine E.iload (q := 418) X711 hx (hb hby at_416) rfl ?_
            refine Ends.callS X711 hx hZ hown (hw _ (List.mem_of_getElem? (i := 51) rfl)) (hw _ (List.mem_of_getElem? (i := 52) rfl)) (hw _ (List.mem_of_getElem? (i := 2) rfl)) (hw _ (List.mem_of_getElem? (i := 53) rfl)) (by decide) (argsL := [(.int t1), (.int bv)]) (rest := []) e711 (rm9 l Z a0 hw t1 bv T696.heap) (W := 0) (by decide) (by decide) (by rw [hml]; rfl) (lenOf pd_4 rfl) (Nat.le_of_eq rfl) (hb hby at_418) (by decide) (by decide) rfl ?_
            rintro T713 v713 L713 X713 ⟨rfl, e713, rfl⟩
            rw [List.append_nil] at X713
            by_cases hb714_1 : (own_in t1 bv) = (0 : Int32)
            · refine E.ifY (q := 485) X713 hx (hb hby at_421) (XT.i0_eq_t hb714_1) ?_
              have mhb714_1 := (own_in_bi).1 hb714_1
              refine E.iconst (q := 486) (v := (0 : Int32)) X713 hx (hb hby at_485) rfl ?_
              exact JF1 T713 X713 e713 _ (own_nb0 (by simp [mhb712_1, mhb714_1]))
            · refine E.ifN (q := 424) X713 hx (hb hby at_421) (XT.i0_eq_f hb714_1) ?_
              have mhb714_1 := (own_in_bi).2 hb714_1
              refine E.iload (q := 426) X713 hx (hb hby at_424) rfl ?_
              refine E.iload (q := 428) X713 hx (hb hby at_426) rfl ?_
              refine Ends.callS X713 hx hZ hown (hw _ (List.mem_of_getElem? (i := 51) rfl)) (hw _ (List.mem_of_getElem? (i := 52) rfl)) (hw _ (List.mem_of_getElem? (i := 2) rfl)) (hw _ (List.mem_of_getElem? (i := 53) rfl)) (by decide) (argsL := [(.int w1), (.int bw)]) (rest := []) e713 (rm9 l Z a0 hw w1 bw T696.heap) (W := 0) (by decide) (by decide) (by rw [hml]; rfl) (lenOf pd_4 rfl) (Nat.le_of_eq rfl) (hb hby at_428) (by decide) (by decide) rfl ?_
              rintro T715 v715 L715 X715 ⟨rfl, e715, rfl⟩
              rw [List.append_nil] at X715
              by_cases hb716_1 : (own_in w1 bw) = (0 : Int32)
              · refine E.ifY (q := 485) X715 hx (hb hby at_431) (XT.i0_eq_t hb716_1) ?_
                have mhb716_1 := (own_in_bi).1 hb716_1
                refine E.iconst (q := 486) (v := (0 : Int32)) X715 hx (hb hby at_485) rfl ?_
                exact JF1 T715 X715 e715 _ (own_nb0 (by simp [mhb712_1, mhb714_1, mhb716_1]))
              · refine E.ifN (q := 434) X715 hx (hb hby at_431) (XT.i0_eq_f hb716_1) ?_
                have mhb716_1 := (own_in_bi).2 hb716_1
                refine E.iload (q := 436) X715 hx (hb hby at_434) rfl ?_
                refine E.iload (q := 438) X715 hx (hb hby at_436) rfl ?_
                refine Ends.callS X715 hx hZ hown (hw _ (List.mem_of_getElem? (i := 51) rfl)) (hw _ (List.mem_of_getElem? (i := 52) rfl)) (hw _ (List.mem_of_getElem? (i := 2) rfl)) (hw _ (List.mem_of_getElem? (i := 53) rfl)) (by decide) (argsL := [(.int r1), (.int br)]) (rest := []) e715 (rm9 l Z a0 hw r1 br T696.heap) (W := 0) (by decide) (by decide) (by rw [hml]; rfl) (lenOf pd_4 rfl) (Nat.le_of_eq rfl) (hb hby at_438) (by decide) (by decide) rfl ?_
                rintro T717 v717 L717 X717 ⟨rfl, e717, rfl⟩
                rw [List.append_nil] at X717
                by_cases hb718_1 : (own_in r1 br) = (0 : Int32)
                · refine E.ifY (q := 485) X717 hx (hb hby at_441) (XT.i0_eq_t hb718_1) ?_
                  have mhb718_1 := (own_in_bi).1 hb718_1
                  refine E.iconst (q := 486) (v := (0 : Int32)) X717 hx (hb hby at_485) rfl ?_
                  exact JF1 T717 X717 e717 _ (own_nb0 (by simp [mhb712_1, mhb714_1, mhb716_1, mhb718_1]))
                · refine E.ifN (q := 444) X717 hx (hb hby at_441) (XT.i0_eq_f hb718_1) ?_
                  have mhb718_1 := (own_in_bi).2 hb718_1
                  refine E.iload (q := 446) X717 hx (hb hby at_444) rfl ?_
                  refine Ends.callS X717 hx hZ hown (hw _ (List.mem_of_getElem? (i := 72) rfl)) (hw _ (List.mem_of_getElem? (i := 73) rfl)) (hw _ (List.mem_of_getElem? (i := 2) rfl)) (hw _ (List.mem_of_getElem? (i := 74) rfl)) (by decide) (argsL := [(.int s1)]) (rest := []) e717 (rm13 l Z a0 hw s1 T696.heap) (W := 0) (by decide) (by decide) (by rw [hml]; rfl) (lenOf pd_5 rfl) (Nat.le_of_eq rfl) (hb hby at_446) (by decide) (by decide) rfl ?_
                  rintro T719 v719 L719 X719 ⟨rfl, e719, rfl⟩
                  rw [List.append_nil] at X719
                  by_cases hb720_1 : (own_fi s1) = (0 : Int32)
                  · refine E.ifY (q := 485) X719 hx (hb hby at_449) (XT.i0_eq_t hb720_1) ?_
                    have mhb720_1 := (own_fi_bd ks1).1 hb720_1
                    refine E.iconst (q := 486) (v := (0 : Int32)) X719 hx (hb hby at_485) rfl ?_
                    exact JF1 T719 X719 e719 _ (own_nb0 (by simp [mhb712_1, mhb714_1, mhb716_1, mhb718_1, mhb720_1]))
                  · refine E.ifN (q := 452) X719 hx (hb hby at_449) (XT.i0_eq_f hb720_1) ?_
                    have mhb720_1 := (own_fi_bd ks1).2 hb720_1
                    refine E.iload (q := 454) X719 hx (hb hby at_452) rfl ?_
                    refine Ends.callS X719 hx hZ hown (hw _ (List.mem_of_getElem? (i := 72) rfl)) (hw _ (List.mem_of_getElem? (i := 73) rfl)) (hw _ (List.mem_of_getElem? (i := 2) rfl)) (hw _ (List.mem_of_getElem? (i := 74) rfl)) (by decide) (argsL := [(.int e1)]) (rest := []) e719 (rm13 l Z a0 hw e1 T696.heap) (W := 0) (by decide) (by decide) (by rw [hml]; rfl) (lenOf pd_5 rfl) (Nat.le_of_eq rfl) (hb hby at_454) (by decide) (by decide) rfl ?_
                    rintro T721 v721 L721 X721 ⟨rfl, e721, rfl⟩
                    rw [List.append_nil] at X721
                    by_cases hb722_1 : (own_fi e1) = (0 : Int32)
                    · refine E.ifY (q := 485) X721 hx (hb hby at_457) (XT.i0_eq_t hb722_1) ?_
                      have mhb722_1 := (own_fi_bd ke1).1 hb722_1
                      refine E.iconst (q := 486) (v := (0 : Int32)) X721 hx (hb hby at_485) rfl ?_
                      exact JF1 T721 X721 e721 _ (own_nb0 (by simp [mhb712_1, mhb714_1, mhb716_1, mhb718_1, mhb720_1, mhb722_1]))
                    · refine E.ifN (q := 460) X721 hx (hb hby at_457) (XT.i0_eq_f hb722_1) ?_
                      have mhb722_1 := (own_fi_bd ke1).2 hb722_1
                      refine E.iload (q := 462) X721 hx (hb hby at_460) rfl ?_
                      refine E.ifY (q := 481) X721 hx (hb hby at_462) (XT.i0_eq_t (by decide)) ?_
                      refine E.iconst (q := 482) (v := (1 : Int32)) X721 hx (hb hby at_481) rfl ?_
                      refine E.goto (q := 486) X721 hx (hb hby at_482) ?_
                      exact JF1 T721 X721 e721 _ (own_nb1 (by simp [mhb712_1, mhb714_1, mhb716_1, mhb718_1, mhb720_1, mhb722_1]))
        refine Ends.callS Xp697 hx hZ hown (hw _ (List.mem_of_getElem? (i := 51) rfl)) (hw _ (List.mem_of_getElem? (i := 52) rfl)) (hw _ (List.mem_of_getElem? (i := 2) rfl)) (hw _ (List.mem_of_getElem? (i := 53) rfl)) (by decide) (argsL := [(.int f0), (.int bv)]) (rest := []) e696 (rm9 l Z a0 hw f0 bv T696.heap) (W := 0) (by decide) (by decide) (by rw [hml]; rfl) (lenOf pd_4 rfl) (Nat.le_of_eq rfl) (hb hby at_324) (by decide) (by decide) rfl ?_
        rintro T698 v698 L698 X698 ⟨rfl, e698, rfl⟩
        rw [List.append_nil] at X698
        by_cases hb699_0 : (own_in f0 bv) = (0 : Int32)
        · refine E.ifY (q := 401) X698 hx (hb hby at_327) (XT.i0_eq_t hb699_0) ?_
          have mhb699_0 := (own_in_bi).1 hb699_0
          refine E.iconst (q := 402) (v := (0 : Int32)) X698 hx (hb hby at_401) rfl ?_
          exact JF0 T698 X698 e698 _ (own_nb0 (by simp [mhb699_0]))
        · refine E.ifN (q := 330) X698 hx (hb hby at_327) (XT.i0_eq_f hb699_0) ?_
          have mhb699_0 := (own_in_bi).2 hb699_0
          refine E.iload (q := 332) X698 hx (hb hby at_330) rfl ?_
          refine E.iload (q := 334) X698 hx (hb hby at_332) rfl ?_
          refine Ends.callS X698 hx hZ hown (hw _ (List.mem_of_getElem? (i := 51) rfl)) (hw _ (List.mem_of_getElem? (i := 52) rfl)) (hw _ (List.mem_of_getElem? (i := 2) rfl)) (hw _ (List.mem_of_getElem? (i := 53) rfl)) (by decide) (argsL := [(.int t0), (.int bv)]) (rest := []) e698 (rm9 l Z a0 hw t0 bv T696.heap) (W := 0) (by decide) (by decide) (by rw [hml]; rfl) (lenOf pd_4 rfl) (Nat.le_of_eq rfl) (hb hby at_334) (by decide) (by decide) rfl ?_
          rintro T700 v700 L700 X700 ⟨rfl, e700, rfl⟩
          rw [List.append_nil] at X700
          by_cases hb701_0 : (own_in t0 bv) = (0 : Int32)
          · refine E.ifY (q := 401) X700 hx (hb hby at_337) (XT.i0_eq_t hb701_0) ?_
            have mhb701_0 := (own_in_bi).1 hb701_0
            refine E.iconst (q := 402) (v := (0 : Int32)) X700 hx (hb hby at_401) rfl ?_
            exact JF0 T700 X700 e700 _ (own_nb0 (by simp [mhb699_0, mhb701_0]))
          · refine E.ifN (q := 340) X700 hx (hb hby at_337) (XT.i0_eq_f hb701_0) ?_
            have mhb701_0 := (own_in_bi).2 hb701_0
            refine E.iload (q := 342) X700 hx (hb hby at_340) rfl ?_
            refine E.iload (q := 344) X700 hx (hb hby at_342) rfl ?_
            refine Ends.callS X700 hx hZ hown (hw _ (List.mem_of_getElem? (i := 51) rfl)) (hw _ (List.mem_of_getElem? (i := 52) rfl)) (hw _ (List.mem_of_getElem? (i := 2) rfl)) (hw _ (List.mem_of_getElem? (i := 53) rfl)) (by decide) (argsL := [(.int w0), (.int bw)]) (rest := []) e700 (rm9 l Z a0 hw w0 bw T696.heap) (W := 0) (by decide) (by decide) (by rw [hml]; rfl) (lenOf pd_4 rfl) (Nat.le_of_eq rfl) (hb hby at_344) (by decide) (by decide) rfl ?_
            rintro T702 v702 L702 X702 ⟨rfl, e702, rfl⟩
            rw [List.append_nil] at X702
            by_cases hb703_0 : (own_in w0 bw) = (0 : Int32)
            · refine E.ifY (q := 401) X702 hx (hb hby at_347) (XT.i0_eq_t hb703_0) ?_
              have mhb703_0 := (own_in_bi).1 hb703_0
              refine E.iconst (q := 402) (v := (0 : Int32)) X702 hx (hb hby at_401) rfl ?_
              exact JF0 T702 X702 e702 _ (own_nb0 (by simp [mhb699_0, mhb701_0, mhb703_0]))
            · refine E.ifN (q := 350) X702 hx (hb hby at_347) (XT.i0_eq_f hb703_0) ?_
              have mhb703_0 := (own_in_bi).2 hb703_0
              refine E.iload (q := 352) X702 hx (hb hby at_350) rfl ?_
              refine E.iload (q := 354) X702 hx (hb hby at_352) rfl ?_
              refine Ends.callS X702 hx hZ hown (hw _ (List.mem_of_getElem? (i := 51) rfl)) (hw _ (List.mem_of_getElem? (i := 52) rfl)) (hw _ (List.mem_of_getElem? (i := 2) rfl)) (hw _ (List.mem_of_getElem? (i := 53) rfl)) (by decide) (argsL := [(.int r0), (.int br)]) (rest := []) e702 (rm9 l Z a0 hw r0 br T696.heap) (W := 0) (by decide) (by decide) (by rw [hml]; rfl) (lenOf pd_4 rfl) (Nat.le_of_eq rfl) (hb hby at_354) (by decide) (by decide) rfl ?_
              rintro T704 v704 L704 X704 ⟨rfl, e704, rfl⟩
              rw [List.append_nil] at X704
              by_cases hb705_0 : (own_in r0 br) = (0 : Int32)
              · refine E.ifY (q := 401) X704 hx (hb hby at_357) (XT.i0_eq_t hb705_0) ?_
                have mhb705_0 := (own_in_bi).1 hb705_0
                refine E.iconst (q := 402) (v := (0 : Int32)) X704 hx (hb hby at_401) rfl ?_
                exact JF0 T704 X704 e704 _ (own_nb0 (by simp [mhb699_0, mhb701_0, mhb703_0, mhb705_0]))
              · refine E.ifN (q := 360) X704 hx (hb hby at_357) (XT.i0_eq_f hb705_0) ?_
                have mhb705_0 := (own_in_bi).2 hb705_0
                refine E.iload (q := 362) X704 hx (hb hby at_360) rfl ?_
                refine Ends.callS X704 hx hZ hown (hw _ (List.mem_of_getElem? (i := 72) rfl)) (hw _ (List.mem_of_getElem? (i := 73) rfl)) (hw _ (List.mem_of_getElem? (i := 2) rfl)) (hw _ (List.mem_of_getElem? (i := 74) rfl)) (by decide) (argsL := [(.int s0)]) (rest := []) e704 (rm13 l Z a0 hw s0 T696.heap) (W := 0) (by decide) (by decide) (by rw [hml]; rfl) (lenOf pd_5 rfl) (Nat.le_of_eq rfl) (hb hby at_362) (by decide) (by decide) rfl ?_
                rintro T706 v706 L706 X706 ⟨rfl, e706, rfl⟩
                rw [List.append_nil] at X706
                by_cases hb707_0 : (own_fi s0) = (0 : Int32)
                · refine E.ifY (q := 401) X706 hx (hb hby at_365) (XT.i0_eq_t hb707_0) ?_
                  have mhb707_0 := (own_fi_bd ks0).1 hb707_0
                  refine E.iconst (q := 402) (v := (0 : Int32)) X706 hx (hb hby at_401) rfl ?_
                  exact JF0 T706 X706 e706 _ (own_nb0 (by simp [mhb699_0, mhb701_0, mhb703_0, mhb705_0, mhb707_0]))
                · refine E.ifN (q := 368) X706 hx (hb hby at_365) (XT.i0_eq_f hb707_0) ?_
                  have mhb707_0 := (own_fi_bd ks0).2 hb707_0
                  refine E.iload (q := 370) X706 hx (hb hby at_368) rfl ?_
                  refine Ends.callS X706 hx hZ hown (hw _ (List.mem_of_getElem? (i := 72) rfl)) (hw _ (List.mem_of_getElem? (i := 73) rfl)) (hw _ (List.mem_of_getElem? (i := 2) rfl)) (hw _ (List.mem_of_getElem? (i := 74) rfl)) (by decide) (argsL := [(.int e0_)]) (rest := []) e706 (rm13 l Z a0 hw e0_ T696.heap) (W := 0) (by decide) (by decide) (by rw [hml]; rfl) (lenOf pd_5 rfl) (Nat.le_of_eq rfl) (hb hby at_370) (by decide) (by decide) rfl ?_
                  rintro T708 v708 L708 X708 ⟨rfl, e708, rfl⟩
                  rw [List.append_nil] at X708
                  by_cases hb709_0 : (own_fi e0_) = (0 : Int32)
                  · refine E.ifY (q := 401) X708 hx (hb hby at_373) (XT.i0_eq_t hb709_0) ?_
                    have mhb709_0 := (own_fi_bd ke0_).1 hb709_0
                    refine E.iconst (q := 402) (v := (0 : Int32)) X708 hx (hb hby at_401) rfl ?_
                    exact JF0 T708 X708 e708 _ (own_nb0 (by simp [mhb699_0, mhb701_0, mhb703_0, mhb705_0, mhb707_0, mhb709_0]))
                  · refine E.ifN (q := 376) X708 hx (hb hby at_373) (XT.i0_eq_f hb709_0) ?_
                    have mhb709_0 := (own_fi_bd ke0_).2 hb709_0
                    refine E.iload (q := 378) X708 hx (hb hby at_376) rfl ?_
                    refine E.ifY (q := 397) X708 hx (hb hby at_378) (XT.i0_eq_t (by decide)) ?_
                    refine E.iconst (q := 398) (v := (1 : Int32)) X708 hx (hb hby at_397) rfl ?_
                    refine E.goto (q := 402) X708 hx (hb hby at_398) ?_
                    exact JF0 T708 X708 e708 _ (own_nb1 (by simp [mhb699_0, mhb701_0, mhb703_0, mhb705_0, mhb707_0, mhb709_0]))
      · subst hN
        show Ends p e below s _ _ _ T656 (mkF m 206 #[.val (.long pp0), .second, .val (.long pp1), .second, .val (.long pp2), .second, .val (.long pp3), .second, .val (.long pp4), .second, .val (.long pp5), .second, .val (.int bv), .val (.int bw), .val (.int br), .val (.int ct), .val (.int (2 : Int32)), .val (.int (0 : Int32)), .val (.int s0), .val (.int e0_), .val (.int c0), .val (.int d0), .val (.int s1), .val (.int e1), .val (.int cc1), .val (.int d1), .val (.int f0), .val (.int t0), .val (.int w0), .val (.int r0), .val (.int f1), .val (.int t1), .val (.int w1), .val (.int r1), .val (.ref b652), .unset, .unset, .unset, .unset] [])
        refine Ends.newC X656 hx hZ hown (hw _ (List.mem_of_getElem? (i := 8) rfl)) (hw _ (List.mem_of_getElem? (i := 9) rfl)) (hw _ (List.mem_of_getElem? (i := 10) rfl)) e656 (hb hby at_206) (by decide) (by decide) ?_
        intro T737 h737 b737 g737 X737 e737 E737 A737 D737
        have ge_b737 : h0.size ≤ b737 := Nat.le_trans O656.le (Nat.le_of_eq g737.symm)
        have O737 := O656.ext E737
        have F737_numbers : Fld Z h737 b737 "com/example/hourline/hourline/network/EdgeValues" "numbers" "[[I" .null := D737 (Or.inr (hw _ (List.mem_of_getElem? (i := 27) rfl))) (ty := (.array (.array .int))) (by decide)
        have F737_measures : Fld Z h737 b737 "com/example/hourline/hourline/network/EdgeValues" "measures" "[[D" .null := D737 (Or.inr (hw _ (List.mem_of_getElem? (i := 29) rfl))) (ty := (.array (.array .double))) (by decide)
        have F737_size : Fld Z h737 b737 "com/example/hourline/hourline/network/EdgeValues" "size" "I" (.int (0 : Int32)) := D737 (Or.inl (hw _ (List.mem_of_getElem? (i := 31) rfl))) (ty := .int) (by decide)
        refine E.dup (q := 210) X737 hx (hb hby at_209) rfl ?_
        refine E.iconst (q := 211) (v := (3 : Int32)) X737 hx (hb hby at_210) rfl ?_
        refine E.iload (q := 213) X737 hx (hb hby at_211) rfl ?_
        have f738 := V656.ext E737
        refine Ends.callI X737 hx hZ hown (hw _ (List.mem_of_getElem? (i := 11) rfl)) (hw _ (List.mem_of_getElem? (i := 12) rfl)) (hw _ (List.mem_of_getElem? (i := 10) rfl)) (hw _ (List.mem_of_getElem? (i := 13) rfl)) rfl (by decide) (argsL := [(.int (3 : Int32)), (.int (0 : Int32))]) (rest := [(.ref b737)]) e737 (rmC0 l Z a0 hw b737 h737 A737 F737_numbers F737_measures F737_size (own_sta_keep S0 O737.1 own_ns0)) (W := 1) (by decide) (by decide) (by rw [hml]; rfl) (lenOf pd_3 rfl) (Nat.le_of_eq rfl) (hb hby at_213) (by decide) (by decide) rfl ?_
        rintro T739 v739 L739 X739 ⟨rfl, nA, mA, n0, n1, n2, n3, m0, m1, hO739, ⟨ch0, ch1, ch2, ch3, ch4, ch5, ch6, ch7⟩, hge739, hFn739, hFm739, hFs739, VnA_739, VmA_739, Vn0_739, Vn1_739, Vn2_739, Vn3_739, Vm0_739, Vm1_739⟩
        have e739 : T739.heap = T739.heap := rfl
        have O739 := O737.call hO739 (allS (Or.inr ge_b737) all0)
        have ge_nA : h0.size ≤ nA := Nat.le_trans O737.le hge739
        have ge_mA : h0.size ≤ mA := Nat.le_trans ge_nA (Nat.le_of_lt ch1)
        have ge_n0 : h0.size ≤ n0 := Nat.le_trans ge_mA (Nat.le_of_lt ch2)
        have ge_n1 : h0.size ≤ n1 := Nat.le_trans ge_n0 (Nat.le_of_lt ch3)
        have ge_n2 : h0.size ≤ n2 := Nat.le_trans ge_n1 (Nat.le_of_lt ch4)
        have ge_n3 : h0.size ≤ n3 := Nat.le_trans ge_n2 (Nat.le_of_lt ch5)
        have ge_m0 : h0.size ≤ m0 := Nat.le_trans ge_n3 (Nat.le_of_lt ch6)
        have ge_m1 : h0.size ≤ m1 := Nat.le_trans ge_m0 (Nat.le_of_lt ch7)
        have nb_nA : b652 < nA := Nat.lt_of_lt_of_le f738.lt hge739
        refine E.astore (q := 218) (l' := #[.val (.long pp0), .second, .val (.long pp1), .second, .val (.long pp2), .second, .val (.long pp3), .second, .val (.long pp4), .second, .val (.long pp5), .second, .val (.int bv), .val (.int bw), .val (.int br), .val (.int ct), .val (.int (2 : Int32)), .val (.int (0 : Int32)), .val (.int s0), .val (.int e0_), .val (.int c0), .val (.int d0), .val (.int s1), .val (.int e1), .val (.int cc1), .val (.int d1), .val (.int f0), .val (.int t0), .val (.int w0), .val (.int r0), .val (.int f1), .val (.int t1), .val (.int w1), .val (.int r1), .val (.ref b652), .val (.ref b737), .unset, .unset, .unset]) X739 hx (hb hby at_216) rfl rfl ?_
        refine E.iload (q := 220) X739 hx (hb hby at_218) rfl ?_
        refine E.iconst (q := 221) (v := (1 : Int32)) X739 hx (hb hby at_220) rfl ?_
        refine E.icmpN (q := 224) X739 hx (hb hby at_221) (XT.ii_lt_f (by decide)) ?_
        refine E.aload (q := 226) X739 hx (hb hby at_224) rfl rfl ?_
        refine E.iload (q := 228) X739 hx (hb hby at_226) rfl ?_
        refine E.iload (q := 230) X739 hx (hb hby at_228) rfl ?_
        refine E.iload (q := 232) X739 hx (hb hby at_230) rfl ?_
        refine E.iload (q := 234) X739 hx (hb hby at_232) rfl ?_
        refine E.iload (q := 236) X739 hx (hb hby at_234) rfl ?_
        refine Ends.callS X739 hx hZ hown (hw _ (List.mem_of_getElem? (i := 35) rfl)) (hw _ (List.mem_of_getElem? (i := 36) rfl)) (hw _ (List.mem_of_getElem? (i := 2) rfl)) (hw _ (List.mem_of_getElem? (i := 37) rfl)) (by decide) (argsL := [(.int s0)]) (rest := [(.int r0), (.int w0), (.int t0), (.int f0), (.ref b737)]) e739 (rm6 l Z a0 hw s0 T739.heap) (W := 5) (by decide) (by decide) (by rw [hml]; rfl) (lenOf pd_8 rfl) (Nat.le_of_eq rfl) (hb hby at_236) (by decide) (by decide) rfl ?_
        rintro T740 v740 L740 X740 ⟨rfl, e740, rfl⟩
        rw [List.append_nil] at X740
        refine E.iload (q := 241) X740 hx (hb hby at_239) rfl ?_
        refine Ends.callS X740 hx hZ hown (hw _ (List.mem_of_getElem? (i := 35) rfl)) (hw _ (List.mem_of_getElem? (i := 36) rfl)) (hw _ (List.mem_of_getElem? (i := 2) rfl)) (hw _ (List.mem_of_getElem? (i := 37) rfl)) (by decide) (argsL := [(.int e0_)]) (rest := [(.double (own_m s0)), (.int r0), (.int w0), (.int t0), (.int f0), (.ref b737)]) e740 (rm6 l Z a0 hw e0_ T739.heap) (W := 7) (by decide) (by decide) (by rw [hml]; rfl) (lenOf pd_8 rfl) (Nat.le_of_eq rfl) (hb hby at_241) (by decide) (by decide) rfl ?_
        rintro T741 v741 L741 X741 ⟨rfl, e741, rfl⟩
        rw [List.append_nil] at X741
        have f742 := A737.keep hO739.1
        refine Ends.callV X741 hx hZ hown (hw _ (List.mem_of_getElem? (i := 40) rfl)) (hw _ (List.mem_of_getElem? (i := 41) rfl)) (hw _ (List.mem_of_getElem? (i := 43) rfl)) (hw _ (List.mem_of_getElem? (i := 42) rfl)) (hw _ (List.mem_of_getElem? (i := 10) rfl)) (hw _ (List.mem_of_getElem? (i := 44) rfl)) (by decide) (argsL := [(.int f0), (.int t0), (.int w0), (.int r0), (.double (own_m s0)), (.double (own_m e0_))]) (rest := []) e741 f742 (rmA0 l Z a0 hw b737 f0 t0 w0 r0 (own_m s0) (own_m e0_) nA mA n0 n1 n2 n3 m0 m1 [] (.int (0 : Int32)) (.int (0 : Int32)) (.int (0 : Int32)) (.int (0 : Int32)) (.int (0 : Int32)) (.int (0 : Int32)) (.int (0 : Int32)) (.int (0 : Int32)) (.int (0 : Int32)) (.int (0 : Int32)) (.int (0 : Int32)) (.int (0 : Int32)) (.double (0 : UInt64)) (.double (0 : UInt64)) (.double (0 : UInt64)) (.double (0 : UInt64)) (.double (0 : UInt64)) (.double (0 : UInt64)) .null .null .null .null .null .null T739.heap ⟨ch0, ch1, ch2, ch3, ch4, ch5, ch6, ch7⟩ f742 hFn739 hFm739 VnA_739 VmA_739 hFs739 Vn0_739 Vn1_739 Vn2_739 Vn3_739 Vm0_739 Vm1_739) (W := 0) (by decide) (by decide) (by rw [hml]; rfl) (lenOf pd_9 rfl) (Nat.le_of_eq rfl) (hb hby at_244) (by decide) (by decide) rfl ?_
        rintro T743 v743 L743 X743 ⟨⟨z743, rfl⟩, hO743, hFs743, hFn743, hFm743, hn0743, hn1743, hn2743, hn3743, hm0743, hm1743⟩
        have e743 : T743.heap = T743.heap := rfl
        have O743 := O739.call hO743 (allS (Or.inr ge_b737) (allS (Or.inr ge_n0) (allS (Or.inr ge_n1) (allS (Or.inr ge_n2) (allS (Or.inr ge_n3) (allS (Or.inr ge_m0) (allS (Or.inr ge_m1) all0)))))))
        refine E.pop (q := 248) X743 hx (hb hby at_247) rfl ?_
        refine E.iload (q := 250) X743 hx (hb hby at_248) rfl ?_
        refine E.ifY (q := 269) X743 hx (hb hby at_250) (XT.i0_eq_t (by decide)) ?_
        refine E.iload (q := 271) X743 hx (hb hby at_269) rfl ?_
        refine E.iconst (q := 272) (v := (2 : Int32)) X743 hx (hb hby at_271) rfl ?_
        refine E.icmpN (q := 275) X743 hx (hb hby at_272) (XT.ii_lt_f (by decide)) ?_
        refine E.aload (q := 277) X743 hx (hb hby at_275) rfl rfl ?_
        refine E.iload (q := 279) X743 hx (hb hby at_277) rfl ?_
        refine E.iload (q := 281) X743 hx (hb hby at_279) rfl ?_
        refine E.iload (q := 283) X743 hx (hb hby at_281) rfl ?_
        refine E.iload (q := 285) X743 hx (hb hby at_283) rfl ?_
        refine E.iload (q := 287) X743 hx (hb hby at_285) rfl ?_
        refine Ends.callS X743 hx hZ hown (hw _ (List.mem_of_getElem? (i := 35) rfl)) (hw _ (List.mem_of_getElem? (i := 36) rfl)) (hw _ (List.mem_of_getElem? (i := 2) rfl)) (hw _ (List.mem_of_getElem? (i := 37) rfl)) (by decide) (argsL := [(.int s1)]) (rest := [(.int r1), (.int w1), (.int t1), (.int f1), (.ref b737)]) e743 (rm6 l Z a0 hw s1 T743.heap) (W := 5) (by decide) (by decide) (by rw [hml]; rfl) (lenOf pd_8 rfl) (Nat.le_of_eq rfl) (hb hby at_287) (by decide) (by decide) rfl ?_
        rintro T744 v744 L744 X744 ⟨rfl, e744, rfl⟩
        rw [List.append_nil] at X744
        refine E.iload (q := 292) X744 hx (hb hby at_290) rfl ?_
        refine Ends.callS X744 hx hZ hown (hw _ (List.mem_of_getElem? (i := 35) rfl)) (hw _ (List.mem_of_getElem? (i := 36) rfl)) (hw _ (List.mem_of_getElem? (i := 2) rfl)) (hw _ (List.mem_of_getElem? (i := 37) rfl)) (by decide) (argsL := [(.int e1)]) (rest := [(.double (own_m s1)), (.int r1), (.int w1), (.int t1), (.int f1), (.ref b737)]) e744 (rm6 l Z a0 hw e1 T743.heap) (W := 7) (by decide) (by decide) (by rw [hml]; rfl) (lenOf pd_8 rfl) (Nat.le_of_eq rfl) (hb hby at_292) (by decide) (by decide) rfl ?_
        rintro T745 v745 L745 X745 ⟨rfl, e745, rfl⟩
        rw [List.append_nil] at X745
        have f746 := f742.keep hO743.1
        have f747 := VnA_739.keep hO743.1 (ninS (Ne.symm (Nat.ne_of_lt ch0)) (ninS (Nat.ne_of_lt (Nat.lt_trans ch1 ch2)) (ninS (Nat.ne_of_lt (Nat.lt_trans ch1 (Nat.lt_trans ch2 ch3))) (ninS (Nat.ne_of_lt (Nat.lt_trans ch1 (Nat.lt_trans ch2 (Nat.lt_trans ch3 ch4)))) (ninS (Nat.ne_of_lt (Nat.lt_trans ch1 (Nat.lt_trans ch2 (Nat.lt_trans ch3 (Nat.lt_trans ch4 ch5))))) (ninS (Nat.ne_of_lt (Nat.lt_trans ch1 (Nat.lt_trans ch2 (Nat.lt_trans ch3 (Nat.lt_trans ch4 (Nat.lt_trans ch5 ch6)))))) (ninS (Nat.ne_of_lt (Nat.lt_trans ch1 (Nat.lt_trans ch2 (Nat.lt_trans ch3 (Nat.lt_trans ch4 (Nat.lt_trans ch5 (Nat.lt_trans ch6 ch7))))))) nin0)))))))
        have f748 := VmA_739.keep hO743.1 (ninS (Ne.symm (Nat.ne_of_lt (Nat.lt_trans ch0 ch1))) (ninS (Nat.ne_of_lt ch2) (ninS (Nat.ne_of_lt (Nat.lt_trans ch2 ch3)) (ninS (Nat.ne_of_lt (Nat.lt_trans ch2 (Nat.lt_trans ch3 ch4))) (ninS (Nat.ne_of_lt (Nat.lt_trans ch2 (Nat.lt_trans ch3 (Nat.lt_trans ch4 ch5)))) (ninS (Nat.ne_of_lt (Nat.lt_trans ch2 (Nat.lt_trans ch3 (Nat.lt_trans ch4 (Nat.lt_trans ch5 ch6))))) (ninS (Nat.ne_of_lt (Nat.lt_trans ch2 (Nat.lt_trans ch3 (Nat.lt_trans ch4 (Nat.lt_trans ch5 (Nat.lt_trans ch6 ch7)))))) nin0)))))))
        refine Ends.callV X745 hx hZ hown (hw _ (List.mem_of_getElem? (i := 40) rfl)) (hw _ (List.mem_of_getElem? (i := 41) rfl)) (hw _ (List.mem_of_getElem? (i := 43) rfl)) (hw _ (List.mem_of_getElem? (i := 42) rfl)) (hw _ (List.mem_of_getElem? (i := 10) rfl)) (hw _ (List.mem_of_getElem? (i := 44) rfl)) (by decide) (argsL := [(.int f1), (.int t1), (.int w1), (.int r1), (.double (own_m s1)), (.double (own_m e1))]) (rest := []) e745 f746 (rmA1 l Z a0 hw b737 f1 t1 w1 r1 (own_m s1) (own_m e1) nA mA n0 n1 n2 n3 m0 m1 [] (.int f0) (.int (0 : Int32)) (.int (0 : Int32)) (.int t0) (.int (0 : Int32)) (.int (0 : Int32)) (.int w0) (.int (0 : Int32)) (.int (0 : Int32)) (.int r0) (.int (0 : Int32)) (.int (0 : Int32)) (.double (own_m s0)) (.double (0 : UInt64)) (.double (0 : UInt64)) (.double (own_m e0_)) (.double (0 : UInt64)) (.double (0 : UInt64)) .null .null .null .null .null .null T743.heap ⟨ch0, ch1, ch2, ch3, ch4, ch5, ch6, ch7⟩ f746 hFn743 hFm743 f747 f748 hFs743 hn0743 hn1743 hn2743 hn3743 hm0743 hm1743) (W := 0) (by decide) (by decide) (by rw [hml]; rfl) (lenOf pd_9 rfl) (Nat.le_of_eq rfl) (hb hby at_295) (by decide) (by decide) rfl ?_
        rintro T749 v749 L749 X749 ⟨⟨z749, rfl⟩, hO749, hFs749, hFn749, hFm749, hn0749, hn1749, hn2749, hn3749, hm0749, hm1749⟩
        have e749 : T749.heap = T749.heap := rfl
        have O749 := O743.call hO749 (allS (Or.inr ge_b737) (allS (Or.inr ge_n0) (allS (Or.inr ge_n1) (allS (Or.inr ge_n2) (allS (Or.inr ge_n3) (allS (Or.inr ge_m0) (allS (Or.inr ge_m1) all0)))))))
        refine E.pop (q := 299) X749 hx (hb hby at_298) rfl ?_
        refine E.iload (q := 301) X749 hx (hb hby at_299) rfl ?_
        refine E.ifY (q := 320) X749 hx (hb hby at_301) (XT.i0_eq_t (by decide)) ?_
        refine E.iload (q := 322) X749 hx (hb hby at_320) rfl ?_
        refine E.iload (q := 324) X749 hx (hb hby at_322) rfl ?_
        obtain ⟨lq750, cq750, sq750, Xp750, Op750, hcq750, hsq750⟩ : ∃ (lq : List Loc) (cq sq : Nat), Stand p l e room_1 s m #[(.long pp0), (.long pp1), (.long pp2), (.long pp3), (.long pp4), (.long pp5)] below meth c T749 lq cq sq ∧ Ok h0 T749.heap [] lq ∧ cq = 10 ∧ sq = 31 := ⟨_, _, _, X749, O749, rfl, rfl⟩
        subst hcq750 hsq750
        have JF0 : ∀ (Tf0 : State), Stand p l e room_1 s m #[(.long pp0), (.long pp1), (.long pp2), (.long pp3), (.long pp4), (.long pp5)] below meth c Tf0 lq750 10 31 → Tf0.heap = T749.heap → ∀ F0 : Int32, F0 = own_nb [own_bi f0 bv, own_bi t0 bv, own_bi w0 bw, own_bi r0 br, own_bd (own_m s0), own_bd (own_m e0_)] → Ends p e below s (fun v h L => v = some (.int 1) ∧ Fr h0.size L) room_1.cells room_1.slots Tf0 (mkF m 402 #[.val (.long pp0), .second, .val (.long pp1), .second, .val (.long pp2), .second, .val (.long pp3), .second, .val (.long pp4), .second, .val (.long pp5), .second, .val (.int bv), .val (.int bw), .val (.int br), .val (.int ct), .val (.int (2 : Int32)), .val (.int (0 : Int32)), .val (.int s0), .val (.int e0_), .val (.int c0), .val (.int d0), .val (.int s1), .val (.int e1), .val (.int cc1), .val (.int d1), .val (.int f0), .val (.int t0), .val (.int w0), .val (.int r0), .val (.int f1), .val (.int t1), .val (.int w1), .val (.int r1), .val (.ref b652), .val (.ref b737), .unset, .unset, .unset] [(.int F0)]) := by
          intro Tf0 Xf0 ef0 F0 hF0
          refine E.istore (q := 404) (l' := #[.val (.long pp0), .second, .val (.long pp1), .second, .val (.long pp2), .second, .val (.long pp3), .second, .val (.long pp4), .second, .val (.long pp5), .second, .val (.int bv), .val (.int bw), .val (.int br), .val (.int ct), .val (.int (2 : Int32)), .val (.int (0 : Int32)), .val (.int s0), .val (.int e0_), .val (.int c0), .val (.int d0), .val (.int s1), .val (.int e1), .val (.int cc1), .val (.int d1), .val (.int f0), .val (.int t0), .val (.int w0), .val (.int r0), .val (.int f1), .val (.int t1), .val (.int w1), .val (.int r1), .val (.ref b652), .val (.ref b737), .val (.int F0), .unset, .unset]) Xf0 hx (hb hby at_402) rfl ?_
          refine E.iload (q := 406) Xf0 hx (hb hby at_404) rfl ?_
          refine E.iload (q := 408) Xf0 hx (hb hby at_406) rfl ?_
          obtain ⟨lq763, cq763, sq763, Xp763, Op763, hcq763, hsq763⟩ : ∃ (lq : List Loc) (cq sq : Nat), Stand p l e room_1 s m #[(.long pp0), (.long pp1), (.long pp2), (.long pp3), (.long pp4), (.long pp5)] below meth c Tf0 lq cq sq ∧ Ok h0 T749.heap [] lq ∧ cq = 10 ∧ sq = 31 := ⟨_, _, _, Xf0, Op750, rfl, rfl⟩
          subst hcq763 hsq763
          have JF1 : ∀ (Tf1 : State), Stand p l e room_1 s m #[(.long pp0), (.long pp1), (.long pp2), (.long pp3), (.long pp4), (.long pp5)] below meth c Tf1 lq763 10 31 → Tf1.heap = T749.heap → ∀ F1 : Int32, F1 = own_nb [own_bi f1 bv, own_bi t1 bv, own_bi w1 bw, own_bi r1 br, own_bd (own_m s1), own_bd (own_m e1)] → Ends p e below s (fun v h L => v = some (.int 1) ∧ Fr h0.size L) room_1.cells room_1.slots Tf1 (mkF m 486 #[.val (.long pp0), .second, .val (.long pp1), .second, .val (.long pp2), .second, .val (.long pp3), .second, .val (.long pp4), .second, .val (.long pp5), .second, .val (.int bv), .val (.int bw), .val (.int br), .val (.int ct), .val (.int (2 : Int32)), .val (.int (0 : Int32)), .val (.int s0), .val (.int e0_), .val (.int c0), .val (.int d0), .val (.int s1), .val (.int e1), .val (.int cc1), .val (.int d1), .val (.int f0), .val (.int t0), .val (.int w0), .val (.int r0), .val (.int f1), .val (.int t1), .val (.int w1), .val (.int r1), .val (.ref b652), .val (.ref b737), .val (.int F0), .unset, .unset] [(.int F1)]) := by
            intro Tf1 Xf1 ef1 F1 hF1
            refine E.istore (q := 488) (l' := #[.val (.long pp0), .second, .val (.long pp1), .second, .val (.long pp2), .second, .val (.long pp3), .second, .val (.long pp4), .second, .val (.long pp5), .second, .val (.int bv), .val (.int bw), .val (.int br), .val (.int ct), .val (.int (2 : Int32)), .val (.int (0 : Int32)), .val (.int s0), .val (.int e0_), .val (.int c0), .val (.int d0), .val (.int s1), .val (.int e1), .val (.int cc1), .val (.int d1), .val (.int f0), .val (.int t0), .val (.int w0), .val (.int r0), .val (.int f1), .val (.int t1), .val (.int w1), .val (.int r1), .val (.ref b652), .val (.ref b737), .val (.int F0), .val (.int F1), .unset]) Xf1 hx (hb hby at_486) rfl ?_
            refine E.iload (q := 490) Xf1 hx (hb hby at_488) rfl ?_
            refine E.ifY (q := 499) Xf1 hx (hb hby at_490) (XT.i0_ne_t (by decide)) ?_
            refine E.iload (q := 501) Xf1 hx (hb hby at_499) rfl ?_
            by_cases hz0 : F0 = (0 : Int32)
            · refine E.ifN (q := 504) Xf1 hx (hb hby at_501) (XT.i0_ne_f hz0) ?_
              refine E.iconst (q := 505) (v := (0 : Int32)) Xf1 hx (hb hby at_504) rfl ?_
              refine E.istore (q := 507) (l' := #[.val (.long pp0), .second, .val (.long pp1), .second, .val (.long pp2), .second, .val (.long pp3), .second, .val (.long pp4), .second, .val (.long pp5), .second, .val (.int bv), .val (.int bw), .val (.int br), .val (.int ct), .val (.int (2 : Int32)), .val (.int (0 : Int32)), .val (.int s0), .val (.int e0_), .val (.int c0), .val (.int d0), .val (.int s1), .val (.int e1), .val (.int cc1), .val (.int d1), .val (.int f0), .val (.int t0), .val (.int w0), .val (.int r0), .val (.int f1), .val (.int t1), .val (.int w1), .val (.int r1), .val (.ref b652), .val (.ref b737), .val (.int F0), .val (.int F1), .val (.int (0 : Int32))]) Xf1 hx (hb hby at_505) rfl ?_
              refine E.goto (q := 536) Xf1 hx (hb hby at_507) ?_
              refine E.aload (q := 538) Xf1 hx (hb hby at_536) rfl rfl ?_
              refine E.aload (q := 540) Xf1 hx (hb hby at_538) rfl rfl ?_
              have f776 := f746.keep hO749.1
              have f777 := f738.keep hO739.1 (ninS (Nat.ne_of_lt (Nat.lt_of_lt_of_eq V656.lt g737.symm)) nin0)
              have f778 := f777.keep hO743.1 (ninS (Nat.ne_of_lt (Nat.lt_of_lt_of_eq V656.lt g737.symm)) (ninS (Nat.ne_of_lt (Nat.lt_trans nb_nA (Nat.lt_trans ch1 ch2))) (ninS (Nat.ne_of_lt (Nat.lt_trans nb_nA (Nat.lt_trans ch1 (Nat.lt_trans ch2 ch3)))) (ninS (Nat.ne_of_lt (Nat.lt_trans nb_nA (Nat.lt_trans ch1 (Nat.lt_trans ch2 (Nat.lt_trans ch3 ch4))))) (ninS (Nat.ne_of_lt (Nat.lt_trans nb_nA (Nat.lt_trans ch1 (Nat.lt_trans ch2 (Nat.lt_trans ch3 (Nat.lt_trans ch4 ch5)))))) (ninS (Nat.ne_of_lt (Nat.lt_trans nb_nA (Nat.lt_trans ch1 (Nat.lt_trans ch2 (Nat.lt_trans ch3 (Nat.lt_trans ch4 (Nat.lt_trans ch5 ch6))))))) (ninS (Nat.ne_of_lt (Nat.lt_trans nb_nA (Nat.lt_trans ch1 (Nat.lt_trans ch2 (Nat.lt_trans ch3 (Nat.lt_trans ch4 (Nat.lt_trans ch5 (Nat.lt_trans ch6 ch7)))))))) nin0)))))))
              have f779 := f778.keep hO749.1 (ninS (Nat.ne_of_lt (Nat.lt_of_lt_of_eq V656.lt g737.symm)) (ninS (Nat.ne_of_lt (Nat.lt_trans nb_nA (Nat.lt_trans ch1 ch2))) (ninS (Nat.ne_of_lt (Nat.lt_trans nb_nA (Nat.lt_trans ch1 (Nat.lt_trans ch2 ch3)))) (ninS (Nat.ne_of_lt (Nat.lt_trans nb_nA (Nat.lt_trans ch1 (Nat.lt_trans ch2 (Nat.lt_trans ch3 ch4))))) (ninS (Nat.ne_of_lt (Nat.lt_trans nb_nA (Nat.lt_trans ch1 (Nat.lt_trans ch2 (Nat.lt_trans ch3 (Nat.lt_trans ch4 ch5)))))) (ninS (Nat.ne_of_lt (Nat.lt_trans nb_nA (Nat.lt_trans ch1 (Nat.lt_trans ch2 (Nat.lt_trans ch3 (Nat.lt_trans ch4 (Nat.lt_trans ch5 ch6))))))) (ninS (Nat.ne_of_lt (Nat.lt_trans nb_nA (Nat.lt_trans ch1 (Nat.lt_trans ch2 (Nat.lt_trans ch3 (Nat.lt_trans ch4 (Nat.lt_trans ch5 (Nat.lt_trans ch6 ch7)))))))) nin0)))))))
              have f780 := f747.keep hO749.1 (ninS (Ne.symm (Nat.ne_of_lt ch0)) (ninS (Nat.ne_of_lt (Nat.lt_trans ch1 ch2)) (ninS (Nat.ne_of_lt (Nat.lt_trans ch1 (Nat.lt_trans ch2 ch3))) (ninS (Nat.ne_of_lt (Nat.lt_trans ch1 (Nat.lt_trans ch2 (Nat.lt_trans ch3 ch4)))) (ninS (Nat.ne_of_lt (Nat.lt_trans ch1 (Nat.lt_trans ch2 (Nat.lt_trans ch3 (Nat.lt_trans ch4 ch5))))) (ninS (Nat.ne_of_lt (Nat.lt_trans ch1 (Nat.lt_trans ch2 (Nat.lt_trans ch3 (Nat.lt_trans ch4 (Nat.lt_trans ch5 ch6)))))) (ninS (Nat.ne_of_lt (Nat.lt_trans ch1 (Nat.lt_trans ch2 (Nat.lt_trans ch3 (Nat.lt_trans ch4 (Nat.lt_trans ch5 (Nat.lt_trans ch6 ch7))))))) nin0)))))))
              have f781 := f748.keep hO749.1 (ninS (Ne.symm (Nat.ne_of_lt (Nat.lt_trans ch0 ch1))) (ninS (Nat.ne_of_lt ch2) (ninS (Nat.ne_of_lt (Nat.lt_trans ch2 ch3)) (ninS (Nat.ne_of_lt (Nat.lt_trans ch2 (Nat.lt_trans ch3 ch4))) (ninS (Nat.ne_of_lt (Nat.lt_trans ch2 (Nat.lt_trans ch3 (Nat.lt_trans ch4 ch5)))) (ninS (Nat.ne_of_lt (Nat.lt_trans ch2 (Nat.lt_trans ch3 (Nat.lt_trans ch4 (Nat.lt_trans ch5 ch6))))) (ninS (Nat.ne_of_lt (Nat.lt_trans ch2 (Nat.lt_trans ch3 (Nat.lt_trans ch4 (Nat.lt_trans ch5 (Nat.lt_trans ch6 ch7)))))) nin0)))))))
              refine Ends.callV Xf1 hx hZ hown (hw _ (List.mem_of_getElem? (i := 54) rfl)) (hw _ (List.mem_of_getElem? (i := 55) rfl)) (hw _ (List.mem_of_getElem? (i := 57) rfl)) (hw _ (List.mem_of_getElem? (i := 56) rfl)) (hw _ (List.mem_of_getElem? (i := 10) rfl)) (hw _ (List.mem_of_getElem? (i := 58) rfl)) (by decide) (argsL := [(.ref b652)]) (rest := []) ef1 f776 (rmF0 l Z a0 hw b737 b652 (2 : Int32) nA mA n0 n1 n2 n3 m0 m1 f0 f1 (0 : Int32) t0 t1 (0 : Int32) w0 w1 (0 : Int32) r0 r1 (0 : Int32) (own_m s0) (own_m s1) (0 : UInt64) (own_m e0_) (own_m e1) (0 : UInt64) bv bv bw br (own_bi f0 bv, own_bi f1 bv) (own_bi t0 bv, own_bi t1 bv) (own_bi w0 bw, own_bi w1 bw) (own_bi r0 br, own_bi r1 br) (own_bd (own_m s0), own_bd (own_m s1)) (own_bd (own_m e0_), own_bd (own_m e1)) T749.heap (by decide) f776 hFn749 hFm749 hFs749 (own_sta_keep S0 Op763.1 own_ns0) f779 f780 f781 hn0749 hn1749 hn2749 hn3749 hm0749 hm1749 rfl rfl rfl rfl rfl rfl) (W := 0) (by decide) (by decide) (by rw [hml]; rfl) (lenOf pd_6 rfl) (Nat.le_of_eq rfl) (hb hby at_540) (by decide) (by decide) rfl ?_
              rintro T782 v782 L782 X782 ⟨rfl, e782, rfl⟩
              rw [List.append_nil] at X782
              refine E.iload (q := 545) X782 hx (hb hby at_543) rfl ?_
              refine E.icmpN (q := 548) X782 hx (hb hby at_545) (XT.ii_ne_f (own_f20 (hF0.symm.trans hz0))) ?_
              refine E.aload (q := 550) X782 hx (hb hby at_548) rfl rfl ?_
              refine Ends.callV X782 hx hZ hown (hw _ (List.mem_of_getElem? (i := 59) rfl)) (hw _ (List.mem_of_getElem? (i := 60) rfl)) (hw _ (List.mem_of_getElem? (i := 62) rfl)) (hw _ (List.mem_of_getElem? (i := 61) rfl)) (hw _ (List.mem_of_getElem? (i := 10) rfl)) (hw _ (List.mem_of_getElem? (i := 63) rfl)) (by decide) (argsL := []) (rest := []) e782 f776 (rm11 l Z a0 hw b737 (2 : Int32) T749.heap hFs749) (W := 0) (by decide) (by decide) (by rw [hml]; rfl) (lenOf pd_7 rfl) (Nat.le_of_eq rfl) (hb hby at_550) (by decide) (by decide) rfl ?_
              rintro T783 v783 L783 X783 ⟨rfl, e783, rfl⟩
              rw [List.append_nil] at X783
              refine E.iload (q := 555) X783 hx (hb hby at_553) rfl ?_
              refine E.icmpN (q := 558) X783 hx (hb hby at_555) (XT.ii_ne_f (by decide)) ?_
              refine E.iconst (q := 559) (v := (1 : Int32)) X783 hx (hb hby at_558) rfl ?_
              refine E.goto (q := 563) X783 hx (hb hby at_559) ?_
              exact Ends.retS X783 hx hlk hret (by simp) rfl (hb hby at_563) (by decide) (by decide) ⟨rfl, Op763.fr⟩
            · refine E.ifY (q := 510) Xf1 hx (hb hby at_501) (XT.i0_ne_t hz0) ?_
              refine E.iload (q := 512) Xf1 hx (hb hby at_510) rfl ?_
              refine E.iconst (q := 513) (v := (1 : Int32)) Xf1 hx (hb hby at_512) rfl ?_
              refine E.icmpY (q := 522) Xf1 hx (hb hby at_513) (XT.ii_ne_t (by decide)) ?_
              refine E.iload (q := 524) Xf1 hx (hb hby at_522) rfl ?_
              by_cases hz1 : F1 = (0 : Int32)
              · refine E.ifN (q := 527) Xf1 hx (hb hby at_524) (XT.i0_ne_f hz1) ?_
                refine E.iconst (q := 528) (v := (1 : Int32)) Xf1 hx (hb hby at_527) rfl ?_
                refine E.istore (q := 530) (l' := #[.val (.long pp0), .second, .val (.long pp1), .second, .val (.long pp2), .second, .val (.long pp3), .second, .val (.long pp4), .second, .val (.long pp5), .second, .val (.int bv), .val (.int bw), .val (.int br), .val (.int ct), .val (.int (2 : Int32)), .val (.int (0 : Int32)), .val (.int s0), .val (.int e0_), .val (.int c0), .val (.int d0), .val (.int s1), .val (.int e1), .val (.int cc1), .val (.int d1), .val (.int f0), .val (.int t0), .val (.int w0), .val (.int r0), .val (.int f1), .val (.int t1), .val (.int w1), .val (.int r1), .val (.ref b652), .val (.ref b737), .val (.int F0), .val (.int F1), .val (.int (1 : Int32))]) Xf1 hx (hb hby at_528) rfl ?_
                refine E.goto (q := 536) Xf1 hx (hb hby at_530) ?_
                refine E.aload (q := 538) Xf1 hx (hb hby at_536) rfl rfl ?_
                refine E.aload (q := 540) Xf1 hx (hb hby at_538) rfl rfl ?_
                have f784 := f746.keep hO749.1
                have f785 := f738.keep hO739.1 (ninS (Nat.ne_of_lt (Nat.lt_of_lt_of_eq V656.lt g737.symm)) nin0)
                have f786 := f785.keep hO743.1 (ninS (Nat.ne_of_lt (Nat.lt_of_lt_of_eq V656.lt g737.symm)) (ninS (Nat.ne_of_lt (Nat.lt_trans nb_nA (Nat.lt_trans ch1 ch2))) (ninS (Nat.ne_of_lt (Nat.lt_trans nb_nA (Nat.lt_trans ch1 (Nat.lt_trans ch2 ch3)))) (ninS (Nat.ne_of_lt (Nat.lt_trans nb_nA (Nat.lt_trans ch1 (Nat.lt_trans ch2 (Nat.lt_trans ch3 ch4))))) (ninS (Nat.ne_of_lt (Nat.lt_trans nb_nA (Nat.lt_trans ch1 (Nat.lt_trans ch2 (Nat.lt_trans ch3 (Nat.lt_trans ch4 ch5)))))) (ninS (Nat.ne_of_lt (Nat.lt_trans nb_nA (Nat.lt_trans ch1 (Nat.lt_trans ch2 (Nat.lt_trans ch3 (Nat.lt_trans ch4 (Nat.lt_trans ch5 ch6))))))) (ninS (Nat.ne_of_lt (Nat.lt_trans nb_nA (Nat.lt_trans ch1 (Nat.lt_trans ch2 (Nat.lt_trans ch3 (Nat.lt_trans ch4 (Nat.lt_trans ch5 (Nat.lt_trans ch6 ch7)))))))) nin0)))))))
                have f787 := f786.keep hO749.1 (ninS (Nat.ne_of_lt (Nat.lt_of_lt_of_eq V656.lt g737.symm)) (ninS (Nat.ne_of_lt (Nat.lt_trans nb_nA (Nat.lt_trans ch1 ch2))) (ninS (Nat.ne_of_lt (Nat.lt_trans nb_nA (Nat.lt_trans ch1 (Nat.lt_trans ch2 ch3)))) (ninS (Nat.ne_of_lt (Nat.lt_trans nb_nA (Nat.lt_trans ch1 (Nat.lt_trans ch2 (Nat.lt_trans ch3 ch4))))) (ninS (Nat.ne_of_lt (Nat.lt_trans nb_nA (Nat.lt_trans ch1 (Nat.lt_trans ch2 (Nat.lt_trans ch3 (Nat.lt_trans ch4 ch5)))))) (ninS (Nat.ne_of_lt (Nat.lt_trans nb_nA (Nat.lt_trans ch1 (Nat.lt_trans ch2 (Nat.lt_trans ch3 (Nat.lt_trans ch4 (Nat.lt_trans ch5 ch6))))))) (ninS (Nat.ne_of_lt (Nat.lt_trans nb_nA (Nat.lt_trans ch1 (Nat.lt_trans ch2 (Nat.lt_trans ch3 (Nat.lt_trans ch4 (Nat.lt_trans ch5 (Nat.lt_trans ch6 ch7)))))))) nin0)))))))
                have f788 := f747.keep hO749.1 (ninS (Ne.symm (Nat.ne_of_lt ch0)) (ninS (Nat.ne_of_lt (Nat.lt_trans ch1 ch2)) (ninS (Nat.ne_of_lt (Nat.lt_trans ch1 (Nat.lt_trans ch2 ch3))) (ninS (Nat.ne_of_lt (Nat.lt_trans ch1 (Nat.lt_trans ch2 (Nat.lt_trans ch3 ch4)))) (ninS (Nat.ne_of_lt (Nat.lt_trans ch1 (Nat.lt_trans ch2 (Nat.lt_trans ch3 (Nat.lt_trans ch4 ch5))))) (ninS (Nat.ne_of_lt (Nat.lt_trans ch1 (Nat.lt_trans ch2 (Nat.lt_trans ch3 (Nat.lt_trans ch4 (Nat.lt_trans ch5 ch6)))))) (ninS (Nat.ne_of_lt (Nat.lt_trans ch1 (Nat.lt_trans ch2 (Nat.lt_trans ch3 (Nat.lt_trans ch4 (Nat.lt_trans ch5 (Nat.lt_trans ch6 ch7))))))) nin0)))))))
                have f789 := f748.keep hO749.1 (ninS (Ne.symm (Nat.ne_of_lt (Nat.lt_trans ch0 ch1))) (ninS (Nat.ne_of_lt ch2) (ninS (Nat.ne_of_lt (Nat.lt_trans ch2 ch3)) (ninS (Nat.ne_of_lt (Nat.lt_trans ch2 (Nat.lt_trans ch3 ch4))) (ninS (Nat.ne_of_lt (Nat.lt_trans ch2 (Nat.lt_trans ch3 (Nat.lt_trans ch4 ch5)))) (ninS (Nat.ne_of_lt (Nat.lt_trans ch2 (Nat.lt_trans ch3 (Nat.lt_trans ch4 (Nat.lt_trans ch5 ch6))))) (ninS (Nat.ne_of_lt (Nat.lt_trans ch2 (Nat.lt_trans ch3 (Nat.lt_trans ch4 (Nat.lt_trans ch5 (Nat.lt_trans ch6 ch7)))))) nin0)))))))
                refine Ends.callV Xf1 hx hZ hown (hw _ (List.mem_of_getElem? (i := 54) rfl)) (hw _ (List.mem_of_getElem? (i := 55) rfl)) (hw _ (List.mem_of_getElem? (i := 57) rfl)) (hw _ (List.mem_of_getElem? (i := 56) rfl)) (hw _ (List.mem_of_getElem? (i := 10) rfl)) (hw _ (List.mem_of_getElem? (i := 58) rfl)) (by decide) (argsL := [(.ref b652)]) (rest := []) ef1 f784 (rmF0 l Z a0 hw b737 b652 (2 : Int32) nA mA n0 n1 n2 n3 m0 m1 f0 f1 (0 : Int32) t0 t1 (0 : Int32) w0 w1 (0 : Int32) r0 r1 (0 : Int32) (own_m s0) (own_m s1) (0 : UInt64) (own_m e0_) (own_m e1) (0 : UInt64) bv bv bw br (own_bi f0 bv, own_bi f1 bv) (own_bi t0 bv, own_bi t1 bv) (own_bi w0 bw, own_bi w1 bw) (own_bi r0 br, own_bi r1 br) (own_bd (own_m s0), own_bd (own_m s1)) (own_bd (own_m e0_), own_bd (own_m e1)) T749.heap (by decide) f784 hFn749 hFm749 hFs749 (own_sta_keep S0 Op763.1 own_ns0) f787 f788 f789 hn0749 hn1749 hn2749 hn3749 hm0749 hm1749 rfl rfl rfl rfl rfl rfl) (W := 0) (by decide) (by decide) (by rw [hml]; rfl) (lenOf pd_6 rfl) (Nat.le_of_eq rfl) (hb hby at_540) (by decide) (by decide) rfl ?_
                rintro T790 v790 L790 X790 ⟨rfl, e790, rfl⟩
                rw [List.append_nil] at X790
                refine E.iload (q := 545) X790 hx (hb hby at_543) rfl ?_
                refine E.icmpN (q := 548) X790 hx (hb hby at_545) (XT.ii_ne_f (own_f21 (fun q => hz0 (hF0.trans q)) (hF1.symm.trans hz1))) ?_
                refine E.aload (q := 550) X790 hx (hb hby at_548) rfl rfl ?_
                refine Ends.callV X790 hx hZ hown (hw _ (List.mem_of_getElem? (i := 59) rfl)) (hw _ (List.mem_of_getElem? (i := 60) rfl)) (hw _ (List.mem_of_getElem? (i := 62) rfl)) (hw _ (List.mem_of_getElem? (i := 61) rfl)) (hw _ (List.mem_of_getElem? (i := 10) rfl)) (hw _ (List.mem_of_getElem? (i := 63) rfl)) (by decide) (argsL := []) (rest := []) e790 f784 (rm11 l Z a0 hw b737 (2 : Int32) T749.heap hFs749) (W := 0) (by decide) (by decide) (by rw [hml]; rfl) (lenOf pd_7 rfl) (Nat.le_of_eq rfl) (hb hby at_550) (by decide) (by decide) rfl ?_
                rintro T791 v791 L791 X791 ⟨rfl, e791, rfl⟩
                rw [List.append_nil] at X791
                refine E.iload (q := 555) X791 hx (hb hby at_553) rfl ?_
                refine E.icmpN (q := 558) X791 hx (hb hby at_555) (XT.ii_ne_f (by decide)) ?_
                refine E.iconst (q := 559) (v := (1 : Int32)) X791 hx (hb hby at_558) rfl ?_
                refine E.goto (q := 563) X791 hx (hb hby at_559) ?_
                exact Ends.retS X791 hx hlk hret (by simp) rfl (hb hby at_563) (by decide) (by decide) ⟨rfl, Op763.fr⟩
              · refine E.ifY (q := 533) Xf1 hx (hb hby at_524) (XT.i0_ne_t hz1) ?_
                refine E.iconst (q := 534) (v := (2 : Int32)) Xf1 hx (hb hby at_533) rfl ?_
                refine E.istore (q := 536) (l' := #[.val (.long pp0), .second, .val (.long pp1), .second, .val (.long pp2), .second, .val (.long pp3), .second, .val (.long pp4), .second, .val (.long pp5), .second, .val (.int bv), .val (.int bw), .val (.int br), .val (.int ct), .val (.int (2 : Int32)), .val (.int (0 : Int32)), .val (.int s0), .val (.int e0_), .val (.int c0), .val (.int d0), .val (.int s1), .val (.int e1), .val (.int cc1), .val (.int d1), .val (.int f0), .val (.int t0), .val (.int w0), .val (.int r0), .val (.int f1), .val (.int t1), .val (.int w1), .val (.int r1), .val (.ref b652), .val (.ref b737), .val (.int F0), .val (.int F1), .val (.int (2 : Int32))]) Xf1 hx (hb hby at_534) rfl ?_
                refine E.aload (q := 538) Xf1 hx (hb hby at_536) rfl rfl ?_
                refine E.aload (q := 540) Xf1 hx (hb hby at_538) rfl rfl ?_
                have f792 := f746.keep hO749.1
                have f793 := f738.keep hO739.1 (ninS (Nat.ne_of_lt (Nat.lt_of_lt_of_eq V656.lt g737.symm)) nin0)
                have f794 := f793.keep hO743.1 (ninS (Nat.ne_of_lt (Nat.lt_of_lt_of_eq V656.lt g737.symm)) (ninS (Nat.ne_of_lt (Nat.lt_trans nb_nA (Nat.lt_trans ch1 ch2))) (ninS (Nat.ne_of_lt (Nat.lt_trans nb_nA (Nat.lt_trans ch1 (Nat.lt_trans ch2 ch3)))) (ninS (Nat.ne_of_lt (Nat.lt_trans nb_nA (Nat.lt_trans ch1 (Nat.lt_trans ch2 (Nat.lt_trans ch3 ch4))))) (ninS (Nat.ne_of_lt (Nat.lt_trans nb_nA (Nat.lt_trans ch1 (Nat.lt_trans ch2 (Nat.lt_trans ch3 (Nat.lt_trans ch4 ch5)))))) (ninS (Nat.ne_of_lt (Nat.lt_trans nb_nA (Nat.lt_trans ch1 (Nat.lt_trans ch2 (Nat.lt_trans ch3 (Nat.lt_trans ch4 (Nat.lt_trans ch5 ch6))))))) (ninS (Nat.ne_of_lt (Nat.lt_trans nb_nA (Nat.lt_trans ch1 (Nat.lt_trans ch2 (Nat.lt_trans ch3 (Nat.lt_trans ch4 (Nat.lt_trans ch5 (Nat.lt_trans ch6 ch7)))))))) nin0)))))))
                have f795 := f794.keep hO749.1 (ninS (Nat.ne_of_lt (Nat.lt_of_lt_of_eq V656.lt g737.symm)) (ninS (Nat.ne_of_lt (Nat.lt_trans nb_nA (Nat.lt_trans ch1 ch2))) (ninS (Nat.ne_of_lt (Nat.lt_trans nb_nA (Nat.lt_trans ch1 (Nat.lt_trans ch2 ch3)))) (ninS (Nat.ne_of_lt (Nat.lt_trans nb_nA (Nat.lt_trans ch1 (Nat.lt_trans ch2 (Nat.lt_trans ch3 ch4))))) (ninS (Nat.ne_of_lt (Nat.lt_trans nb_nA (Nat.lt_trans ch1 (Nat.lt_trans ch2 (Nat.lt_trans ch3 (Nat.lt_trans ch4 ch5)))))) (ninS (Nat.ne_of_lt (Nat.lt_trans nb_nA (Nat.lt_trans ch1 (Nat.lt_trans ch2 (Nat.lt_trans ch3 (Nat.lt_trans ch4 (Nat.lt_trans ch5 ch6))))))) (ninS (Nat.ne_of_lt (Nat.lt_trans nb_nA (Nat.lt_trans ch1 (Nat.lt_trans ch2 (Nat.lt_trans ch3 (Nat.lt_trans ch4 (Nat.lt_trans ch5 (Nat.lt_trans ch6 ch7)))))))) nin0)))))))
                have f796 := f747.keep hO749.1 (ninS (Ne.symm (Nat.ne_of_lt ch0)) (ninS (Nat.ne_of_lt (Nat.lt_trans ch1 ch2)) (ninS (Nat.ne_of_lt (Nat.lt_trans ch1 (Nat.lt_trans ch2 ch3))) (ninS (Nat.ne_of_lt (Nat.lt_trans ch1 (Nat.lt_trans ch2 (Nat.lt_trans ch3 ch4)))) (ninS (Nat.ne_of_lt (Nat.lt_trans ch1 (Nat.lt_trans ch2 (Nat.lt_trans ch3 (Nat.lt_trans ch4 ch5))))) (ninS (Nat.ne_of_lt (Nat.lt_trans ch1 (Nat.lt_trans ch2 (Nat.lt_trans ch3 (Nat.lt_trans ch4 (Nat.lt_trans ch5 ch6)))))) (ninS (Nat.ne_of_lt (Nat.lt_trans ch1 (Nat.lt_trans ch2 (Nat.lt_trans ch3 (Nat.lt_trans ch4 (Nat.lt_trans ch5 (Nat.lt_trans ch6 ch7))))))) nin0)))))))
                have f797 := f748.keep hO749.1 (ninS (Ne.symm (Nat.ne_of_lt (Nat.lt_trans ch0 ch1))) (ninS (Nat.ne_of_lt ch2) (ninS (Nat.ne_of_lt (Nat.lt_trans ch2 ch3)) (ninS (Nat.ne_of_lt (Nat.lt_trans ch2 (Nat.lt_trans ch3 ch4))) (ninS (Nat.ne_of_lt (Nat.lt_trans ch2 (Nat.lt_trans ch3 (Nat.lt_trans ch4 ch5)))) (ninS (Nat.ne_of_lt (Nat.lt_trans ch2 (Nat.lt_trans ch3 (Nat.lt_trans ch4 (Nat.lt_trans ch5 ch6))))) (ninS (Nat.ne_of_lt (Nat.lt_trans ch2 (Nat.lt_trans ch3 (Nat.lt_trans ch4 (Nat.lt_trans ch5 (Nat.lt_trans ch6 ch7)))))) nin0)))))))
                refine Ends.callV Xf1 hx hZ hown (hw _ (List.mem_of_getElem? (i := 54) rfl)) (hw _ (List.mem_of_getElem? (i := 55) rfl)) (hw _ (List.mem_of_getElem? (i := 57) rfl)) (hw _ (List.mem_of_getElem? (i := 56) rfl)) (hw _ (List.mem_of_getElem? (i := 10) rfl)) (hw _ (List.mem_of_getElem? (i := 58) rfl)) (by decide) (argsL := [(.ref b652)]) (rest := []) ef1 f792 (rmF0 l Z a0 hw b737 b652 (2 : Int32) nA mA n0 n1 n2 n3 m0 m1 f0 f1 (0 : Int32) t0 t1 (0 : Int32) w0 w1 (0 : Int32) r0 r1 (0 : Int32) (own_m s0) (own_m s1) (0 : UInt64) (own_m e0_) (own_m e1) (0 : UInt64) bv bv bw br (own_bi f0 bv, own_bi f1 bv) (own_bi t0 bv, own_bi t1 bv) (own_bi w0 bw, own_bi w1 bw) (own_bi r0 br, own_bi r1 br) (own_bd (own_m s0), own_bd (own_m s1)) (own_bd (own_m e0_), own_bd (own_m e1)) T749.heap (by decide) f792 hFn749 hFm749 hFs749 (own_sta_keep S0 Op763.1 own_ns0) f795 f796 f797 hn0749 hn1749 hn2749 hn3749 hm0749 hm1749 rfl rfl rfl rfl rfl rfl) (W := 0) (by decide) (by decide) (by rw [hml]; rfl) (lenOf pd_6 rfl) (Nat.le_of_eq rfl) (hb hby at_540) (by decide) (by decide) rfl ?_
                rintro T798 v798 L798 X798 ⟨rfl, e798, rfl⟩
                rw [List.append_nil] at X798
                refine E.iload (q := 545) X798 hx (hb hby at_543) rfl ?_
                refine E.icmpN (q := 548) X798 hx (hb hby at_545) (XT.ii_ne_f (own_f22 (fun q => hz0 (hF0.trans q)) (fun q => hz1 (hF1.trans q)))) ?_
                refine E.aload (q := 550) X798 hx (hb hby at_548) rfl rfl ?_
                refine Ends.callV X798 hx hZ hown (hw _ (List.mem_of_getElem? (i := 59) rfl)) (hw _ (List.mem_of_getElem? (i := 60) rfl)) (hw _ (List.mem_of_getElem? (i := 62) rfl)) (hw _ (List.mem_of_getElem? (i := 61) rfl)) (hw _ (List.mem_of_getElem? (i := 10) rfl)) (hw _ (List.mem_of_getElem? (i := 63) rfl)) (by decide) (argsL := []) (rest := []) e798 f792 (rm11 l Z a0 hw b737 (2 : Int32) T749.heap hFs749) (W := 0) (by decide) (by decide) (by rw [hml]; rfl) (lenOf pd_7 rfl) (Nat.le_of_eq rfl) (hb hby at_550) (by decide) (by decide) rfl ?_
                rintro T799 v799 L799 X799 ⟨rfl, e799, rfl⟩
                rw [List.append_nil] at X799
                refine E.iload (q := 555) X799 hx (hb hby at_553) rfl ?_
                refine E.icmpN (q := 558) X799 hx (hb hby at_555) (XT.ii_ne_f (by decide)) ?_
                refine E.iconst (q := 559) (v := (1 : Int32)) X799 hx (hb hby at_558) rfl ?_
                refine E.goto (q := 563) X799 hx (hb hby at_559) ?_
                exact Ends.retS X799 hx hlk hret (by simp) rfl (hb hby at_563) (by decide) (by decide) ⟨rfl, Op763.fr⟩
          refine Ends.callS Xp763 hx hZ hown (hw _ (List.mem_of_getElem? (i := 51) rfl)) (hw _ (List.mem_of_getElem? (i := 52) rfl)) (hw _ (List.mem_of_getElem? (i := 2) rfl)) (hw _ (List.mem_of_getElem? (i := 53) rfl)) (by decide) (argsL := [(.int f1), (.int bv)]) (rest := []) ef0 (rm9 l Z a0 hw f1 bv T749.heap) (W := 0) (by decide) (by decide) (by rw [hml]; rfl) (lenOf pd_4 rfl) (Nat.le_of_eq rfl) (hb hby at_408) (by decide) (by decide) rfl ?_
          rintro T764 v764 L764 X764 ⟨rfl, e764, rfl⟩
          rw [List.append_nil] at X764
          by_cases hb765_1 : (own_in f1 bv) = (0 : Int32)
          · refine E.ifY (q := 485) X764 hx (hb hby at_411) (XT.i0_eq_t hb765_1) ?_
            have mhb765_1 := (own_in_bi).1 hb765_1
            refine E.iconst (q := 486) (v := (0 : Int32)) X764 hx (hb hby at_485) rfl ?_
            exact JF1 T764 X764 e764 _ (own_nb0 (by simp [mhb765_1]))
          · refine E.ifN (q := 414) X764 hx (hb hby at_411) (XT.i0_eq_f hb765_1) ?_
            have mhb765_1 := (own_in_bi).2 hb765_1
            refine E.iload (q := 416) X764 hx (hb hby at_414) rfl ?_
            refine E.iload (q := 418) X764 hx (hb hby at_416) rfl ?_
            refine Ends.callS X764 hx hZ hown (hw _ (List.mem_of_getElem? (i := 51) rfl)) (hw _ (List.mem_of_getElem? (i := 52) rfl)) (hw _ (List.mem_of_getElem? (i := 2) rfl)) (hw _ (List.mem_of_getElem? (i := 53) rfl)) (by decide) (argsL := [(.int t1), (.int bv)]) (rest := []) e764 (rm9 l Z a0 hw t1 bv T749.heap) (W := 0) (by decide) (by decide) (by rw [hml]; rfl) (lenOf pd_4 rfl) (Nat.le_of_eq rfl) (hb hby at_418) (by decide) (by decide) rfl ?_
            rintro T766 v766 L766 X766 ⟨rfl, e766, rfl⟩
            rw [List.append_nil] at X766
            by_cases hb767_1 : (own_in t1 bv) = (0 : Int32)
            · refine E.ifY (q := 485) X766 hx (hb hby at_421) (XT.i0_eq_t hb767_1) ?_
              have mhb767_1 := (own_in_bi).1 hb767_1
              refine E.iconst (q := 486) (v := (0 : Int32)) X766 hx (hb hby at_485) rfl ?_
              exact JF1 T766 X766 e766 _ (own_nb0 (by simp [mhb765_1, mhb767_1]))
            · refine E.ifN (q := 424) X766 hx (hb hby at_421) (XT.i0_eq_f hb767_1) ?_
              have mhb767_1 := (own_in_bi).2 hb767_1
              refine E.iload (q := 426) X766 hx (hb hby at_424) rfl ?_
              refine E.iload (q := 428) X766 hx (hb hby at_426) rfl ?_
              refine Ends.callS X766 hx hZ hown (hw _ (List.mem_of_getElem? (i := 51) rfl)) (hw _ (List.mem_of_getElem? (i := 52) rfl)) (hw _ (List.mem_of_getElem? (i := 2) rfl)) (hw _ (List.mem_of_getElem? (i := 53) rfl)) (by decide) (argsL := [(.int w1), (.int bw)]) (rest := []) e766 (rm9 l Z a0 hw w1 bw T749.heap) (W := 0) (by decide) (by decide) (by rw [hml]; rfl) (lenOf pd_4 rfl) (Nat.le_of_eq rfl) (hb hby at_428) (by decide) (by decide) rfl ?_
              rintro T768 v768 L768 X768 ⟨rfl, e768, rfl⟩
              rw [List.append_nil] at X768
              by_cases hb769_1 : (own_in w1 bw) = (0 : Int32)
              · refine E.ifY (q := 485) X768 hx (hb hby at_431) (XT.i0_eq_t hb769_1) ?_
                have mhb769_1 := (own_in_bi).1 hb769_1
                refine E.iconst (q := 486) (v := (0 : Int32)) X768 hx (hb hby at_485) rfl ?_
                exact JF1 T768 X768 e768 _ (own_nb0 (by simp [mhb765_1, mhb767_1, mhb769_1]))
              · refine E.ifN (q := 434) X768 hx (hb hby at_431) (XT.i0_eq_f hb769_1) ?_
                have mhb769_1 := (own_in_bi).2 hb769_1
                refine E.iload (q := 436) X768 hx (hb hby at_434) rfl ?_
                refine E.iload (q := 438) X768 hx (hb hby at_436) rfl ?_
                refine Ends.callS X768 hx hZ hown (hw _ (List.mem_of_getElem? (i := 51) rfl)) (hw _ (List.mem_of_getElem? (i := 52) rfl)) (hw _ (List.mem_of_getElem? (i := 2) rfl)) (hw _ (List.mem_of_getElem? (i := 53) rfl)) (by decide) (argsL := [(.int r1), (.int br)]) (rest := []) e768 (rm9 l Z a0 hw r1 br T749.heap) (W := 0) (by decide) (by decide) (by rw [hml]; rfl) (lenOf pd_4 rfl) (Nat.le_of_eq rfl) (hb hby at_438) (by decide) (by decide) rfl ?_
                rintro T770 v770 L770 X770 ⟨rfl, e770, rfl⟩
                rw [List.append_nil] at X770
                by_cases hb771_1 : (own_in r1 br) = (0 : Int32)
                · refine E.ifY (q := 485) X770 hx (hb hby at_441) (XT.i0_eq_t hb771_1) ?_
                  have mhb771_1 := (own_in_bi).1 hb771_1
                  refine E.iconst (q := 486) (v := (0 : Int32)) X770 hx (hb hby at_485) rfl ?_
                  exact JF1 T770 X770 e770 _ (own_nb0 (by simp [mhb765_1, mhb767_1, mhb769_1, mhb771_1]))
                · refine E.ifN (q := 444) X770 hx (hb hby at_441) (XT.i0_eq_f hb771_1) ?_
                  have mhb771_1 := (own_in_bi).2 hb771_1
                  refine E.iload (q := 446) X770 hx (hb hby at_444) rfl ?_
                  refine Ends.callS X770 hx hZ hown (hw _ (List.mem_of_getElem? (i := 72) rfl)) (hw _ (List.mem_of_getElem? (i := 73) rfl)) (hw _ (List.mem_of_getElem? (i := 2) rfl)) (hw _ (List.mem_of_getElem? (i := 74) rfl)) (by decide) (argsL := [(.int s1)]) (rest := []) e770 (rm13 l Z a0 hw s1 T749.heap) (W := 0) (by decide) (by decide) (by rw [hml]; rfl) (lenOf pd_5 rfl) (Nat.le_of_eq rfl) (hb hby at_446) (by decide) (by decide) rfl ?_
                  rintro T772 v772 L772 X772 ⟨rfl, e772, rfl⟩
                  rw [List.append_nil] at X772
                  by_cases hb773_1 : (own_fi s1) = (0 : Int32)
                  · refine E.ifY (q := 485) X772 hx (hb hby at_449) (XT.i0_eq_t hb773_1) ?_
                    have mhb773_1 := (own_fi_bd ks1).1 hb773_1
                    refine E.iconst (q := 486) (v := (0 : Int32)) X772 hx (hb hby at_485) rfl ?_
                    exact JF1 T772 X772 e772 _ (own_nb0 (by simp [mhb765_1, mhb767_1, mhb769_1, mhb771_1, mhb773_1]))
                  · refine E.ifN (q := 452) X772 hx (hb hby at_449) (XT.i0_eq_f hb773_1) ?_
                    have mhb773_1 := (own_fi_bd ks1).2 hb773_1
                    refine E.iload (q := 454) X772 hx (hb hby at_452) rfl ?_
                    refine Ends.callS X772 hx hZ hown (hw _ (List.mem_of_getElem? (i := 72) rfl)) (hw _ (List.mem_of_getElem? (i := 73) rfl)) (hw _ (List.mem_of_getElem? (i := 2) rfl)) (hw _ (List.mem_of_getElem? (i := 74) rfl)) (by decide) (argsL := [(.int e1)]) (rest := []) e772 (rm13 l Z a0 hw e1 T749.heap) (W := 0) (by decide) (by decide) (by rw [hml]; rfl) (lenOf pd_5 rfl) (Nat.le_of_eq rfl) (hb hby at_454) (by decide) (by decide) rfl ?_
                    rintro T774 v774 L774 X774 ⟨rfl, e774, rfl⟩
                    rw [List.append_nil] at X774
                    by_cases hb775_1 : (own_fi e1) = (0 : Int32)
                    · refine E.ifY (q := 485) X774 hx (hb hby at_457) (XT.i0_eq_t hb775_1) ?_
                      have mhb775_1 := (own_fi_bd ke1).1 hb775_1
                      refine E.iconst (q := 486) (v := (0 : Int32)) X774 hx (hb hby at_485) rfl ?_
                      exact JF1 T774 X774 e774 _ (own_nb0 (by simp [mhb765_1, mhb767_1, mhb769_1, mhb771_1, mhb773_1, mhb775_1]))
                    · refine E.ifN (q := 460) X774 hx (hb hby at_457) (XT.i0_eq_f hb775_1) ?_
                      have mhb775_1 := (own_fi_bd ke1).2 hb775_1
                      refine E.iload (q := 462) X774 hx (hb hby at_460) rfl ?_
                      refine E.ifY (q := 481) X774 hx (hb hby at_462) (XT.i0_eq_t (by decide)) ?_
                      refine E.iconst (q := 482) (v := (1 : Int32)) X774 hx (hb hby at_481) rfl ?_
                      refine E.goto (q := 486) X774 hx (hb hby at_482) ?_
                      exact JF1 T774 X774 e774 _ (own_nb1 (by simp [mhb765_1, mhb767_1, mhb769_1, mhb771_1, mhb773_1, mhb775_1]))
        refine Ends.callS Xp750 hx hZ hown (hw _ (List.mem_of_getElem? (i := 51) rfl)) (hw _ (List.mem_of_getElem? (i := 52) rfl)) (hw _ (List.mem_of_getElem? (i := 2) rfl)) (hw _ (List.mem_of_getElem? (i := 53) rfl)) (by decide) (argsL := [(.int f0), (.int bv)]) (rest := []) e749 (rm9 l Z a0 hw f0 bv T749.heap) (W := 0) (by decide) (by decide) (by rw [hml]; rfl) (lenOf pd_4 rfl) (Nat.le_of_eq rfl) (hb hby at_324) (by decide) (by decide) rfl ?_
        rintro T751 v751 L751 X751 ⟨rfl, e751, rfl⟩
        rw [List.append_nil] at X751
        by_cases hb752_0 : (own_in f0 bv) = (0 : Int32)
        · refine E.ifY (q := 401) X751 hx (hb hby at_327) (XT.i0_eq_t hb752_0) ?_
          have mhb752_0 := (own_in_bi).1 hb752_0
          refine E.iconst (q := 402) (v := (0 : Int32)) X751 hx (hb hby at_401) rfl ?_
          exact JF0 T751 X751 e751 _ (own_nb0 (by simp [mhb752_0]))
        · refine E.ifN (q := 330) X751 hx (hb hby at_327) (XT.i0_eq_f hb752_0) ?_
          have mhb752_0 := (own_in_bi).2 hb752_0
          refine E.iload (q := 332) X751 hx (hb hby at_330) rfl ?_
          refine E.iload (q := 334) X751 hx (hb hby at_332) rfl ?_
          refine Ends.callS X751 hx hZ hown (hw _ (List.mem_of_getElem? (i := 51) rfl)) (hw _ (List.mem_of_getElem? (i := 52) rfl)) (hw _ (List.mem_of_getElem? (i := 2) rfl)) (hw _ (List.mem_of_getElem? (i := 53) rfl)) (by decide) (argsL := [(.int t0), (.int bv)]) (rest := []) e751 (rm9 l Z a0 hw t0 bv T749.heap) (W := 0) (by decide) (by decide) (by rw [hml]; rfl) (lenOf pd_4 rfl) (Nat.le_of_eq rfl) (hb hby at_334) (by decide) (by decide) rfl ?_
          rintro T753 v753 L753 X753 ⟨rfl, e753, rfl⟩
          rw [List.append_nil] at X753
          by_cases hb754_0 : (own_in t0 bv) = (0 : Int32)
          · refine E.ifY (q := 401) X753 hx (hb hby at_337) (XT.i0_eq_t hb754_0) ?_
            have mhb754_0 := (own_in_bi).1 hb754_0
            refine E.iconst (q := 402) (v := (0 : Int32)) X753 hx (hb hby at_401) rfl ?_
            exact JF0 T753 X753 e753 _ (own_nb0 (by simp [mhb752_0, mhb754_0]))
          · refine E.ifN (q := 340) X753 hx (hb hby at_337) (XT.i0_eq_f hb754_0) ?_
            have mhb754_0 := (own_in_bi).2 hb754_0
            refine E.iload (q := 342) X753 hx (hb hby at_340) rfl ?_
            refine E.iload (q := 344) X753 hx (hb hby at_342) rfl ?_
            refine Ends.callS X753 hx hZ hown (hw _ (List.mem_of_getElem? (i := 51) rfl)) (hw _ (List.mem_of_getElem? (i := 52) rfl)) (hw _ (List.mem_of_getElem? (i := 2) rfl)) (hw _ (List.mem_of_getElem? (i := 53) rfl)) (by decide) (argsL := [(.int w0), (.int bw)]) (rest := []) e753 (rm9 l Z a0 hw w0 bw T749.heap) (W := 0) (by decide) (by decide) (by rw [hml]; rfl) (lenOf pd_4 rfl) (Nat.le_of_eq rfl) (hb hby at_344) (by decide) (by decide) rfl ?_
            rintro T755 v755 L755 X755 ⟨rfl, e755, rfl⟩
            rw [List.append_nil] at X755
            by_cases hb756_0 : (own_in w0 bw) = (0 : Int32)
            · refine E.ifY (q := 401) X755 hx (hb hby at_347) (XT.i0_eq_t hb756_0) ?_
              have mhb756_0 := (own_in_bi).1 hb756_0
              refine E.iconst (q := 402) (v := (0 : Int32)) X755 hx (hb hby at_401) rfl ?_
              exact JF0 T755 X755 e755 _ (own_nb0 (by simp [mhb752_0, mhb754_0, mhb756_0]))
            · refine E.ifN (q := 350) X755 hx (hb hby at_347) (XT.i0_eq_f hb756_0) ?_
              have mhb756_0 := (own_in_bi).2 hb756_0
              refine E.iload (q := 352) X755 hx (hb hby at_350) rfl ?_
              refine E.iload (q := 354) X755 hx (hb hby at_352) rfl ?_
              refine Ends.callS X755 hx hZ hown (hw _ (List.mem_of_getElem? (i := 51) rfl)) (hw _ (List.mem_of_getElem? (i := 52) rfl)) (hw _ (List.mem_of_getElem? (i := 2) rfl)) (hw _ (List.mem_of_getElem? (i := 53) rfl)) (by decide) (argsL := [(.int r0), (.int br)]) (rest := []) e755 (rm9 l Z a0 hw r0 br T749.heap) (W := 0) (by decide) (by decide) (by rw [hml]; rfl) (lenOf pd_4 rfl) (Nat.le_of_eq rfl) (hb hby at_354) (by decide) (by decide) rfl ?_
              rintro T757 v757 L757 X757 ⟨rfl, e757, rfl⟩
              rw [List.append_nil] at X757
              by_cases hb758_0 : (own_in r0 br) = (0 : Int32)
              · refine E.ifY (q := 401) X757 hx (hb hby at_357) (XT.i0_eq_t hb758_0) ?_
                have mhb758_0 := (own_in_bi).1 hb758_0
                refine E.iconst (q := 402) (v := (0 : Int32)) X757 hx (hb hby at_401) rfl ?_
                exact JF0 T757 X757 e757 _ (own_nb0 (by simp [mhb752_0, mhb754_0, mhb756_0, mhb758_0]))
              · refine E.ifN (q := 360) X757 hx (hb hby at_357) (XT.i0_eq_f hb758_0) ?_
                have mhb758_0 := (own_in_bi).2 hb758_0
                refine E.iload (q := 362) X757 hx (hb hby at_360) rfl ?_
                refine Ends.callS X757 hx hZ hown (hw _ (List.mem_of_getElem? (i := 72) rfl)) (hw _ (List.mem_of_getElem? (i := 73) rfl)) (hw _ (List.mem_of_getElem? (i := 2) rfl)) (hw _ (List.mem_of_getElem? (i := 74) rfl)) (by decide) (argsL := [(.int s0)]) (rest := []) e757 (rm13 l Z a0 hw s0 T749.heap) (W := 0) (by decide) (by decide) (by rw [hml]; rfl) (lenOf pd_5 rfl) (Nat.le_of_eq rfl) (hb hby at_362) (by decide) (by decide) rfl ?_
                rintro T759 v759 L759 X759 ⟨rfl, e759, rfl⟩
                rw [List.append_nil] at X759
                by_cases hb760_0 : (own_fi s0) = (0 : Int32)
                · refine E.ifY (q := 401) X759 hx (hb hby at_365) (XT.i0_eq_t hb760_0) ?_
                  have mhb760_0 := (own_fi_bd ks0).1 hb760_0
                  refine E.iconst (q := 402) (v := (0 : Int32)) X759 hx (hb hby at_401) rfl ?_
                  exact JF0 T759 X759 e759 _ (own_nb0 (by simp [mhb752_0, mhb754_0, mhb756_0, mhb758_0, mhb760_0]))
                · refine E.ifN (q := 368) X759 hx (hb hby at_365) (XT.i0_eq_f hb760_0) ?_
                  have mhb760_0 := (own_fi_bd ks0).2 hb760_0
                  refine E.iload (q := 370) X759 hx (hb hby at_368) rfl ?_
                  refine Ends.callS X759 hx hZ hown (hw _ (List.mem_of_getElem? (i := 72) rfl)) (hw _ (List.mem_of_getElem? (i := 73) rfl)) (hw _ (List.mem_of_getElem? (i := 2) rfl)) (hw _ (List.mem_of_getElem? (i := 74) rfl)) (by decide) (argsL := [(.int e0_)]) (rest := []) e759 (rm13 l Z a0 hw e0_ T749.heap) (W := 0) (by decide) (by decide) (by rw [hml]; rfl) (lenOf pd_5 rfl) (Nat.le_of_eq rfl) (hb hby at_370) (by decide) (by decide) rfl ?_
                  rintro T761 v761 L761 X761 ⟨rfl, e761, rfl⟩
                  rw [List.append_nil] at X761
                  by_cases hb762_0 : (own_fi e0_) = (0 : Int32)
                  · refine E.ifY (q := 401) X761 hx (hb hby at_373) (XT.i0_eq_t hb762_0) ?_
                    have mhb762_0 := (own_fi_bd ke0_).1 hb762_0
                    refine E.iconst (q := 402) (v := (0 : Int32)) X761 hx (hb hby at_401) rfl ?_
                    exact JF0 T761 X761 e761 _ (own_nb0 (by simp [mhb752_0, mhb754_0, mhb756_0, mhb758_0, mhb760_0, mhb762_0]))
                  · refine E.ifN (q := 376) X761 hx (hb hby at_373) (XT.i0_eq_f hb762_0) ?_
                    have mhb762_0 := (own_fi_bd ke0_).2 hb762_0
                    refine E.iload (q := 378) X761 hx (hb hby at_376) rfl ?_
                    refine E.ifY (q := 397) X761 hx (hb hby at_378) (XT.i0_eq_t (by decide)) ?_
                    refine E.iconst (q := 398) (v := (1 : Int32)) X761 hx (hb hby at_397) rfl ?_
                    refine E.goto (q := 402) X761 hx (hb hby at_398) ?_
                    exact JF0 T761 X761 e761 _ (own_nb1 (by simp [mhb752_0, mhb754_0, mhb756_0, mhb758_0, mhb760_0, mhb762_0]))
    · subst hcl
      rcases hN with hN | hN | hN
      · subst hN
        show Ends p e below s _ _ _ T656 (mkF m 206 #[.val (.long pp0), .second, .val (.long pp1), .second, .val (.long pp2), .second, .val (.long pp3), .second, .val (.long pp4), .second, .val (.long pp5), .second, .val (.int bv), .val (.int bw), .val (.int br), .val (.int ct), .val (.int (0 : Int32)), .val (.int (1 : Int32)), .val (.int s0), .val (.int e0_), .val (.int c0), .val (.int d0), .val (.int s1), .val (.int e1), .val (.int cc1), .val (.int d1), .val (.int f0), .val (.int t0), .val (.int w0), .val (.int r0), .val (.int f1), .val (.int t1), .val (.int w1), .val (.int r1), .val (.ref b652), .unset, .unset, .unset, .unset] [])
        refine Ends.newC X656 hx hZ hown (hw _ (List.mem_of_getElem? (i := 8) rfl)) (hw _ (List.mem_of_getElem? (i := 9) rfl)) (hw _ (List.mem_of_getElem? (i := 10) rfl)) e656 (hb hby at_206) (by decide) (by decide) ?_
        intro T800 h800 b800 g800 X800 e800 E800 A800 D800
        have ge_b800 : h0.size ≤ b800 := Nat.le_trans O656.le (Nat.le_of_eq g800.symm)
        have O800 := O656.ext E800
        have F800_numbers : Fld Z h800 b800 "com/example/hourline/hourline/network/EdgeValues" "numbers" "[[I" .null := D800 (Or.inr (hw _ (List.mem_of_getElem? (i := 27) rfl))) (ty := (.array (.array .int))) (by decide)
        have F800_measures : Fld Z h800 b800 "com/example/hourline/hourline/network/EdgeValues" "measures" "[[D" .null := D800 (Or.inr (hw _ (List.mem_of_getElem? (i := 29) rfl))) (ty := (.array (.array .double))) (by decide)
        have F800_size : Fld Z h800 b800 "com/example/hourline/hourline/network/EdgeValues" "size" "I" (.int (0 : Int32)) := D800 (Or.inl (hw _ (List.mem_of_getElem? (i := 31) rfl))) (ty := .int) (by decide)
        refine E.dup (q := 210) X800 hx (hb hby at_209) rfl ?_
        refine E.iconst (q := 211) (v := (3 : Int32)) X800 hx (hb hby at_210) rfl ?_
        refine E.iload (q := 213) X800 hx (hb hby at_211) rfl ?_
        have f801 := V656.ext E800
        refine Ends.callI X800 hx hZ hown (hw _ (List.mem_of_getElem? (i := 11) rfl)) (hw _ (List.mem_of_getElem? (i := 12) rfl)) (hw _ (List.mem_of_getElem? (i := 10) rfl)) (hw _ (List.mem_of_getElem? (i := 13) rfl)) rfl (by decide) (argsL := [(.int (3 : Int32)), (.int (1 : Int32))]) (rest := [(.ref b800)]) e800 (rmC1 l Z a0 hw b800 h800 A800 F800_numbers F800_measures F800_size (own_sta_keep S0 O800.1 own_ns0)) (W := 1) (by decide) (by decide) (by rw [hml]; rfl) (lenOf pd_3 rfl) (Nat.le_of_eq rfl) (hb hby at_213) (by decide) (by decide) rfl ?_
        rintro T802 v802 L802 X802 ⟨rfl, nA, mA, n0, n1, n2, n3, m0, m1, m2, m3, hO802, ⟨ch0, ch1, ch2, ch3, ch4, ch5, ch6, ch7, ch8, ch9⟩, hge802, hFn802, hFm802, hFs802, VnA_802, VmA_802, Vn0_802, Vn1_802, Vn2_802, Vn3_802, Vm0_802, Vm1_802, Vm2_802, Vm3_802⟩
        have e802 : T802.heap = T802.heap := rfl
        have O802 := O800.call hO802 (allS (Or.inr ge_b800) all0)
        have ge_nA : h0.size ≤ nA := Nat.le_trans O800.le hge802
        have ge_mA : h0.size ≤ mA := Nat.le_trans ge_nA (Nat.le_of_lt ch1)
        have ge_n0 : h0.size ≤ n0 := Nat.le_trans ge_mA (Nat.le_of_lt ch2)
        have ge_n1 : h0.size ≤ n1 := Nat.le_trans ge_n0 (Nat.le_of_lt ch3)
        have ge_n2 : h0.size ≤ n2 := Nat.le_trans ge_n1 (Nat.le_of_lt ch4)
        have ge_n3 : h0.size ≤ n3 := Nat.le_trans ge_n2 (Nat.le_of_lt ch5)
        have ge_m0 : h0.size ≤ m0 := Nat.le_trans ge_n3 (Nat.le_of_lt ch6)
        have ge_m1 : h0.size ≤ m1 := Nat.le_trans ge_m0 (Nat.le_of_lt ch7)
        have ge_m2 : h0.size ≤ m2 := Nat.le_trans ge_m1 (Nat.le_of_lt ch8)
        have ge_m3 : h0.size ≤ m3 := Nat.le_trans ge_m2 (Nat.le_of_lt ch9)
        have nb_nA : b652 < nA := Nat.lt_of_lt_of_le f801.lt hge802
        refine E.astore (q := 218) (l' := #[.val (.long pp0), .second, .val (.long pp1), .second, .val (.long pp2), .second, .val (.long pp3), .second, .val (.long pp4), .second, .val (.long pp5), .second, .val (.int bv), .val (.int bw), .val (.int br), .val (.int ct), .val (.int (0 : Int32)), .val (.int (1 : Int32)), .val (.int s0), .val (.int e0_), .val (.int c0), .val (.int d0), .val (.int s1), .val (.int e1), .val (.int cc1), .val (.int d1), .val (.int f0), .val (.int t0), .val (.int w0), .val (.int r0), .val (.int f1), .val (.int t1), .val (.int w1), .val (.int r1), .val (.ref b652), .val (.ref b800), .unset, .unset, .unset]) X802 hx (hb hby at_216) rfl rfl ?_
        refine E.iload (q := 220) X802 hx (hb hby at_218) rfl ?_
        refine E.iconst (q := 221) (v := (1 : Int32)) X802 hx (hb hby at_220) rfl ?_
        refine E.icmpY (q := 269) X802 hx (hb hby at_221) (XT.ii_lt_t (by decide)) ?_
        refine E.iload (q := 271) X802 hx (hb hby at_269) rfl ?_
        refine E.iconst (q := 272) (v := (2 : Int32)) X802 hx (hb hby at_271) rfl ?_
        refine E.icmpY (q := 320) X802 hx (hb hby at_272) (XT.ii_lt_t (by decide)) ?_
        refine E.iload (q := 322) X802 hx (hb hby at_320) rfl ?_
        refine E.iload (q := 324) X802 hx (hb hby at_322) rfl ?_
        obtain ⟨lq803, cq803, sq803, Xp803, Op803, hcq803, hsq803⟩ : ∃ (lq : List Loc) (cq sq : Nat), Stand p l e room_1 s m #[(.long pp0), (.long pp1), (.long pp2), (.long pp3), (.long pp4), (.long pp5)] below meth c T802 lq cq sq ∧ Ok h0 T802.heap [] lq ∧ cq = 12 ∧ sq = 39 := ⟨_, _, _, X802, O802, rfl, rfl⟩
        subst hcq803 hsq803
        have JF0 : ∀ (Tf0 : State), Stand p l e room_1 s m #[(.long pp0), (.long pp1), (.long pp2), (.long pp3), (.long pp4), (.long pp5)] below meth c Tf0 lq803 12 39 → Tf0.heap = T802.heap → ∀ F0 : Int32, F0 = own_nb [own_bi f0 bv, own_bi t0 bv, own_bi w0 bw, own_bi r0 br, own_bd (own_m s0), own_bd (own_m e0_), own_bd (own_m c0), own_bd (own_m d0)] → Ends p e below s (fun v h L => v = some (.int 1) ∧ Fr h0.size L) room_1.cells room_1.slots Tf0 (mkF m 402 #[.val (.long pp0), .second, .val (.long pp1), .second, .val (.long pp2), .second, .val (.long pp3), .second, .val (.long pp4), .second, .val (.long pp5), .second, .val (.int bv), .val (.int bw), .val (.int br), .val (.int ct), .val (.int (0 : Int32)), .val (.int (1 : Int32)), .val (.int s0), .val (.int e0_), .val (.int c0), .val (.int d0), .val (.int s1), .val (.int e1), .val (.int cc1), .val (.int d1), .val (.int f0), .val (.int t0), .val (.int w0), .val (.int r0), .val (.int f1), .val (.int t1), .val (.int w1), .val (.int r1), .val (.ref b652), .val (.ref b800), .unset, .unset, .unset] [(.int F0)]) := by
          intro Tf0 Xf0 ef0 F0 hF0
          refine E.istore (q := 404) (l' := #[.val (.long pp0), .second, .val (.long pp1), .second, .val (.long pp2), .second, .val (.long pp3), .second, .val (.long pp4), .second, .val (.long pp5), .second, .val (.int bv), .val (.int bw), .val (.int br), .val (.int ct), .val (.int (0 : Int32)), .val (.int (1 : Int32)), .val (.int s0), .val (.int e0_), .val (.int c0), .val (.int d0), .val (.int s1), .val (.int e1), .val (.int cc1), .val (.int d1), .val (.int f0), .val (.int t0), .val (.int w0), .val (.int r0), .val (.int f1), .val (.int t1), .val (.int w1), .val (.int r1), .val (.ref b652), .val (.ref b800), .val (.int F0), .unset, .unset]) Xf0 hx (hb hby at_402) rfl ?_
          refine E.iload (q := 406) Xf0 hx (hb hby at_404) rfl ?_
          refine E.iload (q := 408) Xf0 hx (hb hby at_406) rfl ?_
          obtain ⟨lq820, cq820, sq820, Xp820, Op820, hcq820, hsq820⟩ : ∃ (lq : List Loc) (cq sq : Nat), Stand p l e room_1 s m #[(.long pp0), (.long pp1), (.long pp2), (.long pp3), (.long pp4), (.long pp5)] below meth c Tf0 lq cq sq ∧ Ok h0 T802.heap [] lq ∧ cq = 12 ∧ sq = 39 := ⟨_, _, _, Xf0, Op803, rfl, rfl⟩
          subst hcq820 hsq820
          have JF1 : ∀ (Tf1 : State), Stand p l e room_1 s m #[(.long pp0), (.long pp1), (.long pp2), (.long pp3), (.long pp4), (.long pp5)] below meth c Tf1 lq820 12 39 → Tf1.heap = T802.heap → ∀ F1 : Int32, F1 = own_nb [own_bi f1 bv, own_bi t1 bv, own_bi w1 bw, own_bi r1 br, own_bd (own_m s1), own_bd (own_m e1), own_bd (own_m cc1), own_bd (own_m d1)] → Ends p e below s (fun v h L => v = some (.int 1) ∧ Fr h0.size L) room_1.cells room_1.slots Tf1 (mkF m 486 #[.val (.long pp0), .second, .val (.long pp1), .second, .val (.long pp2), .second, .val (.long pp3), .second, .val (.long pp4), .second, .val (.long pp5), .second, .val (.int bv), .val (.int bw), .val (.int br), .val (.int ct), .val (.int (0 : Int32)), .val (.int (1 : Int32)), .val (.int s0), .val (.int e0_), .val (.int c0), .val (.int d0), .val (.int s1), .val (.int e1), .val (.int cc1), .val (.int d1), .val (.int f0), .val (.int t0), .val (.int w0), .val (.int r0), .val (.int f1), .val (.int t1), .val (.int w1), .val (.int r1), .val (.ref b652), .val (.ref b800), .val (.int F0), .unset, .unset] [(.int F1)]) := by
            intro Tf1 Xf1 ef1 F1 hF1
            refine E.istore (q := 488) (l' := #[.val (.long pp0), .second, .val (.long pp1), .second, .val (.long pp2), .second, .val (.long pp3), .second, .val (.long pp4), .second, .val (.long pp5), .second, .val (.int bv), .val (.int bw), .val (.int br), .val (.int ct), .val (.int (0 : Int32)), .val (.int (1 : Int32)), .val (.int s0), .val (.int e0_), .val (.int c0), .val (.int d0), .val (.int s1), .val (.int e1), .val (.int cc1), .val (.int d1), .val (.int f0), .val (.int t0), .val (.int w0), .val (.int r0), .val (.int f1), .val (.int t1), .val (.int w1), .val (.int r1), .val (.ref b652), .val (.ref b800), .val (.int F0), .val (.int F1), .unset]) Xf1 hx (hb hby at_486) rfl ?_
            refine E.iload (q := 490) Xf1 hx (hb hby at_488) rfl ?_
            refine E.ifN (q := 493) Xf1 hx (hb hby at_490) (XT.i0_ne_f (by decide)) ?_
            refine E.iconst (q := 494) (v := (0 : Int32)) Xf1 hx (hb hby at_493) rfl ?_
            refine E.istore (q := 496) (l' := #[.val (.long pp0), .second, .val (.long pp1), .second, .val (.long pp2), .second, .val (.long pp3), .second, .val (.long pp4), .second, .val (.long pp5), .second, .val (.int bv), .val (.int bw), .val (.int br), .val (.int ct), .val (.int (0 : Int32)), .val (.int (1 : Int32)), .val (.int s0), .val (.int e0_), .val (.int c0), .val (.int d0), .val (.int s1), .val (.int e1), .val (.int cc1), .val (.int d1), .val (.int f0), .val (.int t0), .val (.int w0), .val (.int r0), .val (.int f1), .val (.int t1), .val (.int w1), .val (.int r1), .val (.ref b652), .val (.ref b800), .val (.int F0), .val (.int F1), .val (.int (0 : Int32))]) Xf1 hx (hb hby at_494) rfl ?_
            refine E.goto (q := 536) Xf1 hx (hb hby at_496) ?_
            refine E.aload (q := 538) Xf1 hx (hb hby at_536) rfl rfl ?_
            refine E.aload (q := 540) Xf1 hx (hb hby at_538) rfl rfl ?_
            have f837 := A800.keep hO802.1
            have f838 := f801.keep hO802.1 (ninS (Nat.ne_of_lt (Nat.lt_of_lt_of_eq V656.lt g800.symm)) nin0)
            refine Ends.callV Xf1 hx hZ hown (hw _ (List.mem_of_getElem? (i := 54) rfl)) (hw _ (List.mem_of_getElem? (i := 55) rfl)) (hw _ (List.mem_of_getElem? (i := 57) rfl)) (hw _ (List.mem_of_getElem? (i := 56) rfl)) (hw _ (List.mem_of_getElem? (i := 10) rfl)) (hw _ (List.mem_of_getElem? (i := 58) rfl)) (by decide) (argsL := [(.ref b652)]) (rest := []) ef1 f837 (rmF1 l Z a0 hw b800 b652 (0 : Int32) nA mA n0 n1 n2 n3 m0 m1 m2 m3 (0 : Int32) (0 : Int32) (0 : Int32) (0 : Int32) (0 : Int32) (0 : Int32) (0 : Int32) (0 : Int32) (0 : Int32) (0 : Int32) (0 : Int32) (0 : Int32) (0 : UInt64) (0 : UInt64) (0 : UInt64) (0 : UInt64) (0 : UInt64) (0 : UInt64) (0 : UInt64) (0 : UInt64) (0 : UInt64) (0 : UInt64) (0 : UInt64) (0 : UInt64) bv bv bw br (own_bi (0 : Int32) bv, own_bi (0 : Int32) bv) (own_bi (0 : Int32) bv, own_bi (0 : Int32) bv) (own_bi (0 : Int32) bw, own_bi (0 : Int32) bw) (own_bi (0 : Int32) br, own_bi (0 : Int32) br) (own_bd (0 : UInt64), own_bd (0 : UInt64)) (own_bd (0 : UInt64), own_bd (0 : UInt64)) (own_bd (0 : UInt64), own_bd (0 : UInt64)) (own_bd (0 : UInt64), own_bd (0 : UInt64)) T802.heap (by decide) f837 hFn802 hFm802 hFs802 (own_sta_keep S0 Op820.1 own_ns0) f838 VnA_802 VmA_802 Vn0_802 Vn1_802 Vn2_802 Vn3_802 Vm0_802 Vm1_802 Vm2_802 Vm3_802 rfl rfl rfl rfl rfl rfl rfl rfl) (W := 0) (by decide) (by decide) (by rw [hml]; rfl) (lenOf pd_6 rfl) (Nat.le_of_eq rfl) (hb hby at_540) (by decide) (by decide) rfl ?_
            rintro T839 v839 L839 X839 ⟨rfl, e839, rfl⟩
            rw [List.append_nil] at X839
            refine E.iload (q := 545) X839 hx (hb hby at_543) rfl ?_
            refine E.icmpN (q := 548) X839 hx (hb hby at_545) (XT.ii_ne_f (own_f0 _)) ?_
            refine E.aload (q := 550) X839 hx (hb hby at_548) rfl rfl ?_
            refine Ends.callV X839 hx hZ hown (hw _ (List.mem_of_getElem? (i := 59) rfl)) (hw _ (List.mem_of_getElem? (i := 60) rfl)) (hw _ (List.mem_of_getElem? (i := 62) rfl)) (hw _ (List.mem_of_getElem? (i := 61) rfl)) (hw _ (List.mem_of_getElem? (i := 10) rfl)) (hw _ (List.mem_of_getElem? (i := 63) rfl)) (by decide) (argsL := []) (rest := []) e839 f837 (rm11 l Z a0 hw b800 (0 : Int32) T802.heap hFs802) (W := 0) (by decide) (by decide) (by rw [hml]; rfl) (lenOf pd_7 rfl) (Nat.le_of_eq rfl) (hb hby at_550) (by decide) (by decide) rfl ?_
            rintro T840 v840 L840 X840 ⟨rfl, e840, rfl⟩
            rw [List.append_nil] at X840
            refine E.iload (q := 555) X840 hx (hb hby at_553) rfl ?_
            refine E.icmpN (q := 558) X840 hx (hb hby at_555) (XT.ii_ne_f (by decide)) ?_
            refine E.iconst (q := 559) (v := (1 : Int32)) X840 hx (hb hby at_558) rfl ?_
            refine E.goto (q := 563) X840 hx (hb hby at_559) ?_
            exact Ends.retS X840 hx hlk hret (by simp) rfl (hb hby at_563) (by decide) (by decide) ⟨rfl, Op820.fr⟩
          refine Ends.callS Xp820 hx hZ hown (hw _ (List.mem_of_getElem? (i := 51) rfl)) (hw _ (List.mem_of_getElem? (i := 52) rfl)) (hw _ (List.mem_of_getElem? (i := 2) rfl)) (hw _ (List.mem_of_getElem? (i := 53) rfl)) (by decide) (argsL := [(.int f1), (.int bv)]) (rest := []) ef0 (rm9 l Z a0 hw f1 bv T802.heap) (W := 0) (by decide) (by decide) (by rw [hml]; rfl) (lenOf pd_4 rfl) (Nat.le_of_eq rfl) (hb hby at_408) (by decide) (by decide) rfl ?_
          rintro T821 v821 L821 X821 ⟨rfl, e821, rfl⟩
          rw [List.append_nil] at X821
          by_cases hb822_1 : (own_in f1 bv) = (0 : Int32)
          · refine E.ifY (q := 485) X821 hx (hb hby at_411) (XT.i0_eq_t hb822_1) ?_
            have mhb822_1 := (own_in_bi).1 hb822_1
            refine E.iconst (q := 486) (v := (0 : Int32)) X821 hx (hb hby at_485) rfl ?_
            exact JF1 T821 X821 e821 _ (own_nb0 (by simp [mhb822_1]))
          · refine E.ifN (q := 414) X821 hx (hb hby at_411) (XT.i0_eq_f hb822_1) ?_
            have mhb822_1 := (own_in_bi).2 hb822_1
            refine E.iload (q := 416) X821 hx (hb hby at_414) rfl ?_
            refine E.iload (q := 418) X821 hx (hb hby at_416) rfl ?_
            refine Ends.callS X821 hx hZ hown (hw _ (List.mem_of_getElem? (i := 51) rfl)) (hw _ (List.mem_of_getElem? (i := 52) rfl)) (hw _ (List.mem_of_getElem? (i := 2) rfl)) (hw _ (List.mem_of_getElem? (i := 53) rfl)) (by decide) (argsL := [(.int t1), (.int bv)]) (rest := []) e821 (rm9 l Z a0 hw t1 bv T802.heap) (W := 0) (by decide) (by decide) (by rw [hml]; rfl) (lenOf pd_4 rfl) (Nat.le_of_eq rfl) (hb hby at_418) (by decide) (by decide) rfl ?_
            rintro T823 v823 L823 X823 ⟨rfl, e823, rfl⟩
            rw [List.append_nil] at X823
            by_cases hb824_1 : (own_in t1 bv) = (0 : Int32)
            · refine E.ifY (q := 485) X823 hx (hb hby at_421) (XT.i0_eq_t hb824_1) ?_
              have mhb824_1 := (own_in_bi).1 hb824_1
              refine E.iconst (q := 486) (v := (0 : Int32)) X823 hx (hb hby at_485) rfl ?_
              exact JF1 T823 X823 e823 _ (own_nb0 (by simp [mhb822_1, mhb824_1]))
            · refine E.ifN (q := 424) X823 hx (hb hby at_421) (XT.i0_eq_f hb824_1) ?_
              have mhb824_1 := (own_in_bi).2 hb824_1
              refine E.iload (q := 426) X823 hx (hb hby at_424) rfl ?_
              refine E.iload (q := 428) X823 hx (hb hby at_426) rfl ?_
              refine Ends.callS X823 hx hZ hown (hw _ (List.mem_of_getElem? (i := 51) rfl)) (hw _ (List.mem_of_getElem? (i := 52) rfl)) (hw _ (List.mem_of_getElem? (i := 2) rfl)) (hw _ (List.mem_of_getElem? (i := 53) rfl)) (by decide) (argsL := [(.int w1), (.int bw)]) (rest := []) e823 (rm9 l Z a0 hw w1 bw T802.heap) (W := 0) (by decide) (by decide) (by rw [hml]; rfl) (lenOf pd_4 rfl) (Nat.le_of_eq rfl) (hb hby at_428) (by decide) (by decide) rfl ?_
              rintro T825 v825 L825 X825 ⟨rfl, e825, rfl⟩
              rw [List.append_nil] at X825
              by_cases hb826_1 : (own_in w1 bw) = (0 : Int32)
              · refine E.ifY (q := 485) X825 hx (hb hby at_431) (XT.i0_eq_t hb826_1) ?_
                have mhb826_1 := (own_in_bi).1 hb826_1
                refine E.iconst (q := 486) (v := (0 : Int32)) X825 hx (hb hby at_485) rfl ?_
                exact JF1 T825 X825 e825 _ (own_nb0 (by simp [mhb822_1, mhb824_1, mhb826_1]))
              · refine E.ifN (q := 434) X825 hx (hb hby at_431) (XT.i0_eq_f hb826_1) ?_
                have mhb826_1 := (own_in_bi).2 hb826_1
                refine E.iload (q := 436) X825 hx (hb hby at_434) rfl ?_
                refine E.iload (q := 438) X825 hx (hb hby at_436) rfl ?_
                refine Ends.callS X825 hx hZ hown (hw _ (List.mem_of_getElem? (i := 51) rfl)) (hw _ (List.mem_of_getElem? (i := 52) rfl)) (hw _ (List.mem_of_getElem? (i := 2) rfl)) (hw _ (List.mem_of_getElem? (i := 53) rfl)) (by decide) (argsL := [(.int r1), (.int br)]) (rest := []) e825 (rm9 l Z a0 hw r1 br T802.heap) (W := 0) (by decide) (by decide) (by rw [hml]; rfl) (lenOf pd_4 rfl) (Nat.le_of_eq rfl) (hb hby at_438) (by decide) (by decide) rfl ?_
                rintro T827 v827 L827 X827 ⟨rfl, e827, rfl⟩
                rw [List.append_nil] at X827
                by_cases hb828_1 : (own_in r1 br) = (0 : Int32)
                · refine E.ifY (q := 485) X827 hx (hb hby at_441) (XT.i0_eq_t hb828_1) ?_
                  have mhb828_1 := (own_in_bi).1 hb828_1
                  refine E.iconst (q := 486) (v := (0 : Int32)) X827 hx (hb hby at_485) rfl ?_
                  exact JF1 T827 X827 e827 _ (own_nb0 (by simp [mhb822_1, mhb824_1, mhb826_1, mhb828_1]))
                · refine E.ifN (q := 444) X827 hx (hb hby at_441) (XT.i0_eq_f hb828_1) ?_
                  have mhb828_1 := (own_in_bi).2 hb828_1
                  refine E.iload (q := 446) X827 hx (hb hby at_444) rfl ?_
                  refine Ends.callS X827 hx hZ hown (hw _ (List.mem_of_getElem? (i := 72) rfl)) (hw _ (List.mem_of_getElem? (i := 73) rfl)) (hw _ (List.mem_of_getElem? (i := 2) rfl)) (hw _ (List.mem_of_getElem? (i := 74) rfl)) (by decide) (argsL := [(.int s1)]) (rest := []) e827 (rm13 l Z a0 hw s1 T802.heap) (W := 0) (by decide) (by decide) (by rw [hml]; rfl) (lenOf pd_5 rfl) (Nat.le_of_eq rfl) (hb hby at_446) (by decide) (by decide) rfl ?_
                  rintro T829 v829 L829 X829 ⟨rfl, e829, rfl⟩
                  rw [List.append_nil] at X829
                  by_cases hb830_1 : (own_fi s1) = (0 : Int32)
                  · refine E.ifY (q := 485) X829 hx (hb hby at_449) (XT.i0_eq_t hb830_1) ?_
                    have mhb830_1 := (own_fi_bd ks1).1 hb830_1
                    refine E.iconst (q := 486) (v := (0 : Int32)) X829 hx (hb hby at_485) rfl ?_
                    exact JF1 T829 X829 e829 _ (own_nb0 (by simp [mhb822_1, mhb824_1, mhb826_1, mhb828_1, mhb830_1]))
                  · refine E.ifN (q := 452) X829 hx (hb hby at_449) (XT.i0_eq_f hb830_1) ?_
                    have mhb830_1 := (own_fi_bd ks1).2 hb830_1
                    refine E.iload (q := 454) X829 hx (hb hby at_452) rfl ?_
                    refine Ends.callS X829 hx hZ hown (hw _ (List.mem_of_getElem? (i := 72) rfl)) (hw _ (List.mem_of_getElem? (i := 73) rfl)) (hw _ (List.mem_of_getElem? (i := 2) rfl)) (hw _ (List.mem_of_getElem? (i := 74) rfl)) (by decide) (argsL := [(.int e1)]) (rest := []) e829 (rm13 l Z a0 hw e1 T802.heap) (W := 0) (by decide) (by decide) (by rw [hml]; rfl) (lenOf pd_5 rfl) (Nat.le_of_eq rfl) (hb hby at_454) (by decide) (by decide) rfl ?_
                    rintro T831 v831 L831 X831 ⟨rfl, e831, rfl⟩
                    rw [List.append_nil] at X831
                    by_cases hb832_1 : (own_fi e1) = (0 : Int32)
                    · refine E.ifY (q := 485) X831 hx (hb hby at_457) (XT.i0_eq_t hb832_1) ?_
                      have mhb832_1 := (own_fi_bd ke1).1 hb832_1
                      refine E.iconst (q := 486) (v := (0 : Int32)) X831 hx (hb hby at_485) rfl ?_
                      exact JF1 T831 X831 e831 _ (own_nb0 (by simp [mhb822_1, mhb824_1, mhb826_1, mhb828_1, mhb830_1, mhb832_1]))
                    · refine E.ifN (q := 460) X831 hx (hb hby at_457) (XT.i0_eq_f hb832_1) ?_
                      have mhb832_1 := (own_fi_bd ke1).2 hb832_1
                      refine E.iload (q := 462) X831 hx (hb hby at_460) rfl ?_
                      refine E.ifN (q := 465) X831 hx (hb hby at_462) (XT.i0_eq_f (by decide)) ?_
                      refine E.iload (q := 467) X831 hx (hb hby at_465) rfl ?_
                      refine Ends.callS X831 hx hZ hown (hw _ (List.mem_of_getElem? (i := 72) rfl)) (hw _ (List.mem_of_getElem? (i := 73) rfl)) (hw _ (List.mem_of_getElem? (i := 2) rfl)) (hw _ (List.mem_of_getElem? (i := 74) rfl)) (by decide) (argsL := [(.int cc1)]) (rest := []) e831 (rm13 l Z a0 hw cc1 T802.heap) (W := 0) (by decide) (by decide) (by rw [hml]; rfl) (lenOf pd_5 rfl) (Nat.le_of_eq rfl) (hb hby at_467) (by decide) (by decide) rfl ?_
                      rintro T833 v833 L833 X833 ⟨rfl, e833, rfl⟩
                      rw [List.append_nil] at X833
                      by_cases hb834_1 : (own_fi cc1) = (0 : Int32)
                      · refine E.ifY (q := 485) X833 hx (hb hby at_470) (XT.i0_eq_t hb834_1) ?_
                        have mhb834_1 := (own_fi_bd kcc1).1 hb834_1
                        refine E.iconst (q := 486) (v := (0 : Int32)) X833 hx (hb hby at_485) rfl ?_
                        exact JF1 T833 X833 e833 _ (own_nb0 (by simp [mhb822_1, mhb824_1, mhb826_1, mhb828_1, mhb830_1, mhb832_1, mhb834_1]))
                      · refine E.ifN (q := 473) X833 hx (hb hby at_470) (XT.i0_eq_f hb834_1) ?_
                        have mhb834_1 := (own_fi_bd kcc1).2 hb834_1
                        refine E.iload (q := 475) X833 hx (hb hby at_473) rfl ?_
                        refine Ends.callS X833 hx hZ hown (hw _ (List.mem_of_getElem? (i := 72) rfl)) (hw _ (List.mem_of_getElem? (i := 73) rfl)) (hw _ (List.mem_of_getElem? (i := 2) rfl)) (hw _ (List.mem_of_getElem? (i := 74) rfl)) (by decide) (argsL := [(.int d1)]) (rest := []) e833 (rm13 l Z a0 hw d1 T802.heap) (W := 0) (by decide) (by decide) (by rw [hml]; rfl) (lenOf pd_5 rfl) (Nat.le_of_eq rfl) (hb hby at_475) (by decide) (by decide) rfl ?_
                        rintro T835 v835 L835 X835 ⟨rfl, e835, rfl⟩
                        rw [List.append_nil] at X835
                        by_cases hb836_1 : (own_fi d1) = (0 : Int32)
                        · refine E.ifY (q := 485) X835 hx (hb hby at_478) (XT.i0_eq_t hb836_1) ?_
                          have mhb836_1 := (own_fi_bd kd1).1 hb836_1
                          refine E.iconst (q := 486) (v := (0 : Int32)) X835 hx (hb hby at_485) rfl ?_
                          exact JF1 T835 X835 e835 _ (own_nb0 (by simp [mhb822_1, mhb824_1, mhb826_1, mhb828_1, mhb830_1, mhb832_1, mhb834_1, mhb836_1]))
                        · refine E.ifN (q := 481) X835 hx (hb hby at_478) (XT.i0_eq_f hb836_1) ?_
                          have mhb836_1 := (own_fi_bd kd1).2 hb836_1
                          refine E.iconst (q := 482) (v := (1 : Int32)) X835 hx (hb hby at_481) rfl ?_
                          refine E.goto (q := 486) X835 hx (hb hby at_482) ?_
                          exact JF1 T835 X835 e835 _ (own_nb1 (by simp [mhb822_1, mhb824_1, mhb826_1, mhb828_1, mhb830_1, mhb832_1, mhb834_1, mhb836_1]))
        refine Ends.callS Xp803 hx hZ hown (hw _ (List.mem_of_getElem? (i := 51) rfl)) (hw _ (List.mem_of_getElem? (i := 52) rfl)) (hw _ (List.mem_of_getElem? (i := 2) rfl)) (hw _ (List.mem_of_getElem? (i := 53) rfl)) (by decide) (argsL := [(.int f0), (.int bv)]) (rest := []) e802 (rm9 l Z a0 hw f0 bv T802.heap) (W := 0) (by decide) (by decide) (by rw [hml]; rfl) (lenOf pd_4 rfl) (Nat.le_of_eq rfl) (hb hby at_324) (by decide) (by decide) rfl ?_
        rintro T804 v804 L804 X804 ⟨rfl, e804, rfl⟩
        rw [List.append_nil] at X804
        by_cases hb805_0 : (own_in f0 bv) = (0 : Int32)
        · refine E.ifY (q := 401) X804 hx (hb hby at_327) (XT.i0_eq_t hb805_0) ?_
          have mhb805_0 := (own_in_bi).1 hb805_0
          refine E.iconst (q := 402) (v := (0 : Int32)) X804 hx (hb hby at_401) rfl ?_
          exact JF0 T804 X804 e804 _ (own_nb0 (by simp [mhb805_0]))
        · refine E.ifN (q := 330) X804 hx (hb hby at_327) (XT.i0_eq_f hb805_0) ?_
          have mhb805_0 := (own_in_bi).2 hb805_0
          refine E.iload (q := 332) X804 hx (hb hby at_330) rfl ?_
          refine E.iload (q := 334) X804 hx (hb hby at_332) rfl ?_
          refine Ends.callS X804 hx hZ hown (hw _ (List.mem_of_getElem? (i := 51) rfl)) (hw _ (List.mem_of_getElem? (i := 52) rfl)) (hw _ (List.mem_of_getElem? (i := 2) rfl)) (hw _ (List.mem_of_getElem? (i := 53) rfl)) (by decide) (argsL := [(.int t0), (.int bv)]) (rest := []) e804 (rm9 l Z a0 hw t0 bv T802.heap) (W := 0) (by decide) (by decide) (by rw [hml]; rfl) (lenOf pd_4 rfl) (Nat.le_of_eq rfl) (hb hby at_334) (by decide) (by decide) rfl ?_
          rintro T806 v806 L806 X806 ⟨rfl, e806, rfl⟩
          rw [List.append_nil] at X806
          by_cases hb807_0 : (own_in t0 bv) = (0 : Int32)
          · refine E.ifY (q := 401) X806 hx (hb hby at_337) (XT.i0_eq_t hb807_0) ?_
            have mhb807_0 := (own_in_bi).1 hb807_0
            refine E.iconst (q := 402) (v := (0 : Int32)) X806 hx (hb hby at_401) rfl ?_
            exact JF0 T806 X806 e806 _ (own_nb0 (by simp [mhb805_0, mhb807_0]))
          · refine E.ifN (q := 340) X806 hx (hb hby at_337) (XT.i0_eq_f hb807_0) ?_
            have mhb807_0 := (own_in_bi).2 hb807_0
            refine E.iload (q := 342) X806 hx (hb hby at_340) rfl ?_
            refine E.iload (q := 344) X806 hx (hb hby at_342) rfl ?_
            refine Ends.callS X806 hx hZ hown (hw _ (List.mem_of_getElem? (i := 51) rfl)) (hw _ (List.mem_of_getElem? (i := 52) rfl)) (hw _ (List.mem_of_getElem? (i := 2) rfl)) (hw _ (List.mem_of_getElem? (i := 53) rfl)) (by decide) (argsL := [(.int w0), (.int bw)]) (rest := []) e806 (rm9 l Z a0 hw w0 bw T802.heap) (W := 0) (by decide) (by decide) (by rw [hml]; rfl) (lenOf pd_4 rfl) (Nat.le_of_eq rfl) (hb hby at_344) (by decide) (by decide) rfl ?_
            rintro T808 v808 L808 X808 ⟨rfl, e808, rfl⟩
            rw [List.append_nil] at X808
            by_cases hb809_0 : (own_in w0 bw) = (0 : Int32)
            · refine E.ifY (q := 401) X808 hx (hb hby at_347) (XT.i0_eq_t hb809_0) ?_
              have mhb809_0 := (own_in_bi).1 hb809_0
              refine E.iconst (q := 402) (v := (0 : Int32)) X808 hx (hb hby at_401) rfl ?_
              exact JF0 T808 X808 e808 _ (own_nb0 (by simp [mhb805_0, mhb807_0, mhb809_0]))
            · refine E.ifN (q := 350) X808 hx (hb hby at_347) (XT.i0_eq_f hb809_0) ?_
              have mhb809_0 := (own_in_bi).2 hb809_0
              refine E.iload (q := 352) X808 hx (hb hby at_350) rfl ?_
              refine E.iload (q := 354) X808 hx (hb hby at_352) rfl ?_
              refine Ends.callS X808 hx hZ hown (hw _ (List.mem_of_getElem? (i := 51) rfl)) (hw _ (List.mem_of_getElem? (i := 52) rfl)) (hw _ (List.mem_of_getElem? (i := 2) rfl)) (hw _ (List.mem_of_getElem? (i := 53) rfl)) (by decide) (argsL := [(.int r0), (.int br)]) (rest := []) e808 (rm9 l Z a0 hw r0 br T802.heap) (W := 0) (by decide) (by decide) (by rw [hml]; rfl) (lenOf pd_4 rfl) (Nat.le_of_eq rfl) (hb hby at_354) (by decide) (by decide) rfl ?_
              rintro T810 v810 L810 X810 ⟨rfl, e810, rfl⟩
              rw [List.append_nil] at X810
              by_cases hb811_0 : (own_in r0 br) = (0 : Int32)
              · refine E.ifY (q := 401) X810 hx (hb hby at_357) (XT.i0_eq_t hb811_0) ?_
                have mhb811_0 := (own_in_bi).1 hb811_0
                refine E.iconst (q := 402) (v := (0 : Int32)) X810 hx (hb hby at_401) rfl ?_
                exact JF0 T810 X810 e810 _ (own_nb0 (by simp [mhb805_0, mhb807_0, mhb809_0, mhb811_0]))
              · refine E.ifN (q := 360) X810 hx (hb hby at_357) (XT.i0_eq_f hb811_0) ?_
                have mhb811_0 := (own_in_bi).2 hb811_0
                refine E.iload (q := 362) X810 hx (hb hby at_360) rfl ?_
                refine Ends.callS X810 hx hZ hown (hw _ (List.mem_of_getElem? (i := 72) rfl)) (hw _ (List.mem_of_getElem? (i := 73) rfl)) (hw _ (List.mem_of_getElem? (i := 2) rfl)) (hw _ (List.mem_of_getElem? (i := 74) rfl)) (by decide) (argsL := [(.int s0)]) (rest := []) e810 (rm13 l Z a0 hw s0 T802.heap) (W := 0) (by decide) (by decide) (by rw [hml]; rfl) (lenOf pd_5 rfl) (Nat.le_of_eq rfl) (hb hby at_362) (by decide) (by decide) rfl ?_
                rintro T812 v812 L812 X812 ⟨rfl, e812, rfl⟩
                rw [List.append_nil] at X812
                by_cases hb813_0 : (own_fi s0) = (0 : Int32)
                · refine E.ifY (q := 401) X812 hx (hb hby at_365) (XT.i0_eq_t hb813_0) ?_
                  have mhb813_0 := (own_fi_bd ks0).1 hb813_0
                  refine E.iconst (q := 402) (v := (0 : Int32)) X812 hx (hb hby at_401) rfl ?_
                  exact JF0 T812 X812 e812 _ (own_nb0 (by simp [mhb805_0, mhb807_0, mhb809_0, mhb811_0, mhb813_0]))
                · refine E.ifN (q := 368) X812 hx (hb hby at_365) (XT.i0_eq_f hb813_0) ?_
                  have mhb813_0 := (own_fi_bd ks0).2 hb813_0
                  refine E.iload (q := 370) X812 hx (hb hby at_368) rfl ?_
                  refine Ends.callS X812 hx hZ hown (hw _ (List.mem_of_getElem? (i := 72) rfl)) (hw _ (List.mem_of_getElem? (i := 73) rfl)) (hw _ (List.mem_of_getElem? (i := 2) rfl)) (hw _ (List.mem_of_getElem? (i := 74) rfl)) (by decide) (argsL := [(.int e0_)]) (rest := []) e812 (rm13 l Z a0 hw e0_ T802.heap) (W := 0) (by decide) (by decide) (by rw [hml]; rfl) (lenOf pd_5 rfl) (Nat.le_of_eq rfl) (hb hby at_370) (by decide) (by decide) rfl ?_
                  rintro T814 v814 L814 X814 ⟨rfl, e814, rfl⟩
                  rw [List.append_nil] at X814
                  by_cases hb815_0 : (own_fi e0_) = (0 : Int32)
                  · refine E.ifY (q := 401) X814 hx (hb hby at_373) (XT.i0_eq_t hb815_0) ?_
                    have mhb815_0 := (own_fi_bd ke0_).1 hb815_0
                    refine E.iconst (q := 402) (v := (0 : Int32)) X814 hx (hb hby at_401) rfl ?_
                    exact JF0 T814 X814 e814 _ (own_nb0 (by simp [mhb805_0, mhb807_0, mhb809_0, mhb811_0, mhb813_0, mhb815_0]))
                  · refine E.ifN (q := 376) X814 hx (hb hby at_373) (XT.i0_eq_f hb815_0) ?_
                    have mhb815_0 := (own_fi_bd ke0_).2 hb815_0
                    refine E.iload (q := 378) X814 hx (hb hby at_376) rfl ?_
                    refine E.ifN (q := 381) X814 hx (hb hby at_378) (XT.i0_eq_f (by decide)) ?_
                    refine E.iload (q := 383) X814 hx (hb hby at_381) rfl ?_
                    refine Ends.callS X814 hx hZ hown (hw _ (List.mem_of_getElem? (i := 72) rfl)) (hw _ (List.mem_of_getElem? (i := 73) rfl)) (hw _ (List.mem_of_getElem? (i := 2) rfl)) (hw _ (List.mem_of_getElem? (i := 74) rfl)) (by decide) (argsL := [(.int c0)]) (rest := []) e814 (rm13 l Z a0 hw c0 T802.heap) (W := 0) (by decide) (by decide) (by rw [hml]; rfl) (lenOf pd_5 rfl) (Nat.le_of_eq rfl) (hb hby at_383) (by decide) (by decide) rfl ?_
                    rintro T816 v816 L816 X816 ⟨rfl, e816, rfl⟩
                    rw [List.append_nil] at X816
                    by_cases hb817_0 : (own_fi c0) = (0 : Int32)
                    · refine E.ifY (q := 401) X816 hx (hb hby at_386) (XT.i0_eq_t hb817_0) ?_
                      have mhb817_0 := (own_fi_bd kc0).1 hb817_0
                      refine E.iconst (q := 402) (v := (0 : Int32)) X816 hx (hb hby at_401) rfl ?_
                      exact JF0 T816 X816 e816 _ (own_nb0 (by simp [mhb805_0, mhb807_0, mhb809_0, mhb811_0, mhb813_0, mhb815_0, mhb817_0]))
                    · refine E.ifN (q := 389) X816 hx (hb hby at_386) (XT.i0_eq_f hb817_0) ?_
                      have mhb817_0 := (own_fi_bd kc0).2 hb817_0
                      refine E.iload (q := 391) X816 hx (hb hby at_389) rfl ?_
                      refine Ends.callS X816 hx hZ hown (hw _ (List.mem_of_getElem? (i := 72) rfl)) (hw _ (List.mem_of_getElem? (i := 73) rfl)) (hw _ (List.mem_of_getElem? (i := 2) rfl)) (hw _ (List.mem_of_getElem? (i := 74) rfl)) (by decide) (argsL := [(.int d0)]) (rest := []) e816 (rm13 l Z a0 hw d0 T802.heap) (W := 0) (by decide) (by decide) (by rw [hml]; rfl) (lenOf pd_5 rfl) (Nat.le_of_eq rfl) (hb hby at_391) (by decide) (by decide) rfl ?_
                      rintro T818 v818 L818 X818 ⟨rfl, e818, rfl⟩
                      rw [List.append_nil] at X818
                      by_cases hb819_0 : (own_fi d0) = (0 : Int32)
                      · refine E.ifY (q := 401) X818 hx (hb hby at_394) (XT.i0_eq_t hb819_0) ?_
                        have mhb819_0 := (own_fi_bd kd0).1 hb819_0
                        refine E.iconst (q := 402) (v := (0 : Int32)) X818 hx (hb hby at_401) rfl ?_
                        exact JF0 T818 X818 e818 _ (own_nb0 (by simp [mhb805_0, mhb807_0, mhb809_0, mhb811_0, mhb813_0, mhb815_0, mhb817_0, mhb819_0]))
                      · refine E.ifN (q := 397) X818 hx (hb hby at_394) (XT.i0_eq_f hb819_0) ?_
                        have mhb819_0 := (own_fi_bd kd0).2 hb819_0
                        refine E.iconst (q := 398) (v := (1 : Int32)) X818 hx (hb hby at_397) rfl ?_
                        refine E.goto (q := 402) X818 hx (hb hby at_398) ?_
                        exact JF0 T818 X818 e818 _ (own_nb1 (by simp [mhb805_0, mhb807_0, mhb809_0, mhb811_0, mhb813_0, mhb815_0, mhb817_0, mhb819_0]))
      · subst hN
        show Ends p e below s _ _ _ T656 (mkF m 206 #[.val (.long pp0), .second, .val (.long pp1), .second, .val (.long pp2), .second, .val (.long pp3), .second, .val (.long pp4), .second, .val (.long pp5), .second, .val (.int bv), .val (.int bw), .val (.int br), .val (.int ct), .val (.int (1 : Int32)), .val (.int (1 : Int32)), .val (.int s0), .val (.int e0_), .val (.int c0), .val (.int d0), .val (.int s1), .val (.int e1), .val (.int cc1), .val (.int d1), .val (.int f0), .val (.int t0), .val (.int w0), .val (.int r0), .val (.int f1), .val (.int t1), .val (.int w1), .val (.int r1), .val (.ref b652), .unset, .unset, .unset, .unset] [])
        refine Ends.newC X656 hx hZ hown (hw _ (List.mem_of_getElem? (i := 8) rfl)) (hw _ (List.mem_of_getElem? (i := 9) rfl)) (hw _ (List.mem_of_getElem? (i := 10) rfl)) e656 (hb hby at_206) (by decide) (by decide) ?_
        intro T841 h841 b841 g841 X841 e841 E841 A841 D841
        have ge_b841 : h0.size ≤ b841 := Nat.le_trans O656.le (Nat.le_of_eq g841.symm)
        have O841 := O656.ext E841
        have F841_numbers : Fld Z h841 b841 "com/example/hourline/hourline/network/EdgeValues" "numbers" "[[I" .null := D841 (Or.inr (hw _ (List.mem_of_getElem? (i := 27) rfl))) (ty := (.array (.array .int))) (by decide)
        have F841_measures : Fld Z h841 b841 "com/example/hourline/hourline/network/EdgeValues" "measures" "[[D" .null := D841 (Or.inr (hw _ (List.mem_of_getElem? (i := 29) rfl))) (ty := (.array (.array .double))) (by decide)
        have F841_size : Fld Z h841 b841 "com/example/hourline/hourline/network/EdgeValues" "size" "I" (.int (0 : Int32)) := D841 (Or.inl (hw _ (List.mem_of_getElem? (i := 31) rfl))) (ty := .int) (by decide)
        refine E.dup (q := 210) X841 hx (hb hby at_209) rfl ?_
        refine E.iconst (q := 211) (v := (3 : Int32)) X841 hx (hb hby at_210) rfl ?_
        refine E.iload (q := 213) X841 hx (hb hby at_211) rfl ?_
        have f842 := V656.ext E841
        refine Ends.callI X841 hx hZ hown (hw _ (List.mem_of_getElem? (i := 11) rfl)) (hw _ (List.mem_of_getElem? (i := 12) rfl)) (hw _ (List.mem_of_getElem? (i := 10) rfl)) (hw _ (List.mem_of_getElem? (i := 13) rfl)) rfl (by decide) (argsL := [(.int (3 : Int32)), (.int (1 : Int32))]) (rest := [(.ref b841)]) e841 (rmC1 l Z a0 hw b841 h841 A841 F841_numbers F841_measures F841_size (own_sta_keep S0 O841.1 own_ns0)) (W := 1) (by decide) (by decide) (by rw [hml]; rfl) (lenOf pd_3 rfl) (Nat.le_of_eq rfl) (hb hby at_213) (by decide) (by decide) rfl ?_
        rintro T843 v843 L843 X843 ⟨rfl, nA, mA, n0, n1, n2, n3, m0, m1, m2, m3, hO843, ⟨ch0, ch1, ch2, ch3, ch4, ch5, ch6, ch7, ch8, ch9⟩, hge843, hFn843, hFm843, hFs843, VnA_843, VmA_843, Vn0_843, Vn1_843, Vn2_843, Vn3_843, Vm0_843, Vm1_843, Vm2_843, Vm3_843⟩
        have e843 : T843.heap = T843.heap := rfl
        have O843 := O841.call hO843 (allS (Or.inr ge_b841) all0)
        have ge_nA : h0.size ≤ nA := Nat.le_trans O841.le hge843
        have ge_mA : h0.size ≤ mA := Nat.le_trans ge_nA (Nat.le_of_lt ch1)
        have ge_n0 : h0.size ≤ n0 := Nat.le_trans ge_mA (Nat.le_of_lt ch2)
        have ge_n1 : h0.size ≤ n1 := Nat.le_trans ge_n0 (Nat.le_of_lt ch3)
        have ge_n2 : h0.size ≤ n2 := Nat.le_trans ge_n1 (Nat.le_of_lt ch4)
        have ge_n3 : h0.size ≤ n3 := Nat.le_trans ge_n2 (Nat.le_of_lt ch5)
        have ge_m0 : h0.size ≤ m0 := Nat.le_trans ge_n3 (Nat.le_of_lt ch6)
        have ge_m1 : h0.size ≤ m1 := Nat.le_trans ge_m0 (Nat.le_of_lt ch7)
        have ge_m2 : h0.size ≤ m2 := Nat.le_trans ge_m1 (Nat.le_of_lt ch8)
        have ge_m3 : h0.size ≤ m3 := Nat.le_trans ge_m2 (Nat.le_of_lt ch9)
        have nb_nA : b652 < nA := Nat.lt_of_lt_of_le f842.lt hge843
        refine E.astore (q := 218) (l' := #[.val (.long pp0), .second, .val (.long pp1), .second, .val (.long pp2), .second, .val (.long pp3), .second, .val (.long pp4), .second, .val (.long pp5), .second, .val (.int bv), .val (.int bw), .val (.int br), .val (.int ct), .val (.int (1 : Int32)), .val (.int (1 : Int32)), .val (.int s0), .val (.int e0_), .val (.int c0), .val (.int d0), .val (.int s1), .val (.int e1), .val (.int cc1), .val (.int d1), .val (.int f0), .val (.int t0), .val (.int w0), .val (.int r0), .val (.int f1), .val (.int t1), .val (.int w1), .val (.int r1), .val (.ref b652), .val (.ref b841), .unset, .unset, .unset]) X843 hx (hb hby at_216) rfl rfl ?_
        refine E.iload (q := 220) X843 hx (hb hby at_218) rfl ?_
        refine E.iconst (q := 221) (v := (1 : Int32)) X843 hx (hb hby at_220) rfl ?_
        refine E.icmpN (q := 224) X843 hx (hb hby at_221) (XT.ii_lt_f (by decide)) ?_
        refine E.aload (q := 226) X843 hx (hb hby at_224) rfl rfl ?_
        refine E.iload (q := 228) X843 hx (hb hby at_226) rfl ?_
        refine E.iload (q := 230) X843 hx (hb hby at_228) rfl ?_
        refine E.iload (q := 232) X843 hx (hb hby at_230) rfl ?_
        refine E.iload (q := 234) X843 hx (hb hby at_232) rfl ?_
        refine E.iload (q := 236) X843 hx (hb hby at_234) rfl ?_
        refine Ends.callS X843 hx hZ hown (hw _ (List.mem_of_getElem? (i := 35) rfl)) (hw _ (List.mem_of_getElem? (i := 36) rfl)) (hw _ (List.mem_of_getElem? (i := 2) rfl)) (hw _ (List.mem_of_getElem? (i := 37) rfl)) (by decide) (argsL := [(.int s0)]) (rest := [(.int r0), (.int w0), (.int t0), (.int f0), (.ref b841)]) e843 (rm6 l Z a0 hw s0 T843.heap) (W := 5) (by decide) (by decide) (by rw [hml]; rfl) (lenOf pd_8 rfl) (Nat.le_of_eq rfl) (hb hby at_236) (by decide) (by decide) rfl ?_
        rintro T844 v844 L844 X844 ⟨rfl, e844, rfl⟩
        rw [List.append_nil] at X844
        refine E.iload (q := 241) X844 hx (hb hby at_239) rfl ?_
        refine Ends.callS X844 hx hZ hown (hw _ (List.mem_of_getElem? (i := 35) rfl)) (hw _ (List.mem_of_getElem? (i := 36) rfl)) (hw _ (List.mem_of_getElem? (i := 2) rfl)) (hw _ (List.mem_of_getElem? (i := 37) rfl)) (by decide) (argsL := [(.int e0_)]) (rest := [(.double (own_m s0)), (.int r0), (.int w0), (.int t0), (.int f0), (.ref b841)]) e844 (rm6 l Z a0 hw e0_ T843.heap) (W := 7) (by decide) (by decide) (by rw [hml]; rfl) (lenOf pd_8 rfl) (Nat.le_of_eq rfl) (hb hby at_241) (by decide) (by decide) rfl ?_
        rintro T845 v845 L845 X845 ⟨rfl, e845, rfl⟩
        rw [List.append_nil] at X845
        have f846 := A841.keep hO843.1
        refine Ends.callV X845 hx hZ hown (hw _ (List.mem_of_getElem? (i := 40) rfl)) (hw _ (List.mem_of_getElem? (i := 41) rfl)) (hw _ (List.mem_of_getElem? (i := 43) rfl)) (hw _ (List.mem_of_getElem? (i := 42) rfl)) (hw _ (List.mem_of_getElem? (i := 10) rfl)) (hw _ (List.mem_of_getElem? (i := 44) rfl)) (by decide) (argsL := [(.int f0), (.int t0), (.int w0), (.int r0), (.double (own_m s0)), (.double (own_m e0_))]) (rest := []) e845 f846 (rmA0 l Z a0 hw b841 f0 t0 w0 r0 (own_m s0) (own_m e0_) nA mA n0 n1 n2 n3 m0 m1 [.ref m2, .ref m3] (.int (0 : Int32)) (.int (0 : Int32)) (.int (0 : Int32)) (.int (0 : Int32)) (.int (0 : Int32)) (.int (0 : Int32)) (.int (0 : Int32)) (.int (0 : Int32)) (.int (0 : Int32)) (.int (0 : Int32)) (.int (0 : Int32)) (.int (0 : Int32)) (.double (0 : UInt64)) (.double (0 : UInt64)) (.double (0 : UInt64)) (.double (0 : UInt64)) (.double (0 : UInt64)) (.double (0 : UInt64)) .null .null .null .null .null .null T843.heap ⟨ch0, ch1, ch2, ch3, ch4, ch5, ch6, ch7⟩ f846 hFn843 hFm843 VnA_843 VmA_843 hFs843 Vn0_843 Vn1_843 Vn2_843 Vn3_843 Vm0_843 Vm1_843) (W := 0) (by decide) (by decide) (by rw [hml]; rfl) (lenOf pd_9 rfl) (Nat.le_of_eq rfl) (hb hby at_244) (by decide) (by decide) rfl ?_
        rintro T847 v847 L847 X847 ⟨⟨z847, rfl⟩, hO847, hFs847, hFn847, hFm847, hn0847, hn1847, hn2847, hn3847, hm0847, hm1847⟩
        have e847 : T847.heap = T847.heap := rfl
        have O847 := O843.call hO847 (allS (Or.inr ge_b841) (allS (Or.inr ge_n0) (allS (Or.inr ge_n1) (allS (Or.inr ge_n2) (allS (Or.inr ge_n3) (allS (Or.inr ge_m0) (allS (Or.inr ge_m1) all0)))))))
        refine E.pop (q := 248) X847 hx (hb hby at_247) rfl ?_
        refine E.iload (q := 250) X847 hx (hb hby at_248) rfl ?_
        refine E.ifN (q := 253) X847 hx (hb hby at_250) (XT.i0_eq_f (by decide)) ?_
        refine E.aload (q := 255) X847 hx (hb hby at_253) rfl rfl ?_
        refine E.iconst (q := 256) (v := (0 : Int32)) X847 hx (hb hby at_255) rfl ?_
        refine E.iload (q := 258) X847 hx (hb hby at_256) rfl ?_
        refine Ends.callS X847 hx hZ hown (hw _ (List.mem_of_getElem? (i := 35) rfl)) (hw _ (List.mem_of_getElem? (i := 36) rfl)) (hw _ (List.mem_of_getElem? (i := 2) rfl)) (hw _ (List.mem_of_getElem? (i := 37) rfl)) (by decide) (argsL := [(.int c0)]) (rest := [(.int (0 : Int32)), (.ref b841)]) e847 (rm6 l Z a0 hw c0 T847.heap) (W := 2) (by decide) (by decide) (by rw [hml]; rfl) (lenOf pd_8 rfl) (Nat.le_of_eq rfl) (hb hby at_258) (by decide) (by decide) rfl ?_
        rintro T848 v848 L848 X848 ⟨rfl, e848, rfl⟩
        rw [List.append_nil] at X848
        refine E.iload (q := 263) X848 hx (hb hby at_261) rfl ?_
        refine Ends.callS X848 hx hZ hown (hw _ (List.mem_of_getElem? (i := 35) rfl)) (hw _ (List.mem_of_getElem? (i := 36) rfl)) (hw _ (List.mem_of_getElem? (i := 2) rfl)) (hw _ (List.mem_of_getElem? (i := 37) rfl)) (by decide) (argsL := [(.int d0)]) (rest := [(.double (own_m c0)), (.int (0 : Int32)), (.ref b841)]) e848 (rm6 l Z a0 hw d0 T847.heap) (W := 4) (by decide) (by decide) (by rw [hml]; rfl) (lenOf pd_8 rfl) (Nat.le_of_eq rfl) (hb hby at_263) (by decide) (by decide) rfl ?_
        rintro T849 v849 L849 X849 ⟨rfl, e849, rfl⟩
        rw [List.append_nil] at X849
        have f850 := VmA_843.keep hO847.1 (ninS (Ne.symm (Nat.ne_of_lt (Nat.lt_trans ch0 ch1))) (ninS (Nat.ne_of_lt ch2) (ninS (Nat.ne_of_lt (Nat.lt_trans ch2 ch3)) (ninS (Nat.ne_of_lt (Nat.lt_trans ch2 (Nat.lt_trans ch3 ch4))) (ninS (Nat.ne_of_lt (Nat.lt_trans ch2 (Nat.lt_trans ch3 (Nat.lt_trans ch4 ch5)))) (ninS (Nat.ne_of_lt (Nat.lt_trans ch2 (Nat.lt_trans ch3 (Nat.lt_trans ch4 (Nat.lt_trans ch5 ch6))))) (ninS (Nat.ne_of_lt (Nat.lt_trans ch2 (Nat.lt_trans ch3 (Nat.lt_trans ch4 (Nat.lt_trans ch5 (Nat.lt_trans ch6 ch7)))))) nin0)))))))
        have f851 := Vm2_843.keep hO847.1 (ninS (Ne.symm (Nat.ne_of_lt (Nat.lt_trans ch0 (Nat.lt_trans ch1 (Nat.lt_trans ch2 (Nat.lt_trans ch3 (Nat.lt_trans ch4 (Nat.lt_trans ch5 (Nat.lt_trans ch6 (Nat.lt_trans ch7 ch8)))))))))) (ninS (Ne.symm (Nat.ne_of_lt (Nat.lt_trans ch3 (Nat.lt_trans ch4 (Nat.lt_trans ch5 (Nat.lt_trans ch6 (Nat.lt_trans ch7 ch8))))))) (ninS (Ne.symm (Nat.ne_of_lt (Nat.lt_trans ch4 (Nat.lt_trans ch5 (Nat.lt_trans ch6 (Nat.lt_trans ch7 ch8)))))) (ninS (Ne.symm (Nat.ne_of_lt (Nat.lt_trans ch5 (Nat.lt_trans ch6 (Nat.lt_trans ch7 ch8))))) (ninS (Ne.symm (Nat.ne_of_lt (Nat.lt_trans ch6 (Nat.lt_trans ch7 ch8)))) (ninS (Ne.symm (Nat.ne_of_lt (Nat.lt_trans ch7 ch8))) (ninS (Ne.symm (Nat.ne_of_lt ch8)) nin0)))))))
        have f852 := Vm3_843.keep hO847.1 (ninS (Ne.symm (Nat.ne_of_lt (Nat.lt_trans ch0 (Nat.lt_trans ch1 (Nat.lt_trans ch2 (Nat.lt_trans ch3 (Nat.lt_trans ch4 (Nat.lt_trans ch5 (Nat.lt_trans ch6 (Nat.lt_trans ch7 (Nat.lt_trans ch8 ch9))))))))))) (ninS (Ne.symm (Nat.ne_of_lt (Nat.lt_trans ch3 (Nat.lt_trans ch4 (Nat.lt_trans ch5 (Nat.lt_trans ch6 (Nat.lt_trans ch7 (Nat.lt_trans ch8 ch9)))))))) (ninS (Ne.symm (Nat.ne_of_lt (Nat.lt_trans ch4 (Nat.lt_trans ch5 (Nat.lt_trans ch6 (Nat.lt_trans ch7 (Nat.lt_trans ch8 ch9))))))) (ninS (Ne.symm (Nat.ne_of_lt (Nat.lt_trans ch5 (Nat.lt_trans ch6 (Nat.lt_trans ch7 (Nat.lt_trans ch8 ch9)))))) (ninS (Ne.symm (Nat.ne_of_lt (Nat.lt_trans ch6 (Nat.lt_trans ch7 (Nat.lt_trans ch8 ch9))))) (ninS (Ne.symm (Nat.ne_of_lt (Nat.lt_trans ch7 (Nat.lt_trans ch8 ch9)))) (ninS (Ne.symm (Nat.ne_of_lt (Nat.lt_trans ch8 ch9))) nin0)))))))
        have f853 := f846.keep hO847.1
        refine Ends.callV X849 hx hZ hown (hw _ (List.mem_of_getElem? (i := 67) rfl)) (hw _ (List.mem_of_getElem? (i := 68) rfl)) (hw _ (List.mem_of_getElem? (i := 70) rfl)) (hw _ (List.mem_of_getElem? (i := 69) rfl)) (hw _ (List.mem_of_getElem? (i := 10) rfl)) (hw _ (List.mem_of_getElem? (i := 71) rfl)) (by decide) (argsL := [(.int (0 : Int32)), (.double (own_m c0)), (.double (own_m d0))]) (rest := []) e849 f853 (rmR0 l Z a0 hw b841 (own_m c0) (own_m d0) mA m0 m1 m2 m3 (.double (0 : UInt64)) (.double (0 : UInt64)) (.double (0 : UInt64)) (.double (0 : UInt64)) (.double (0 : UInt64)) (.double (0 : UInt64)) T847.heap ⟨(Nat.lt_trans ch0 ch1), (Nat.lt_trans ch2 (Nat.lt_trans ch3 (Nat.lt_trans ch4 (Nat.lt_trans ch5 ch6)))), ch7, ch8, ch9⟩ hFm847 f850 f851 f852) (W := 0) (by decide) (by decide) (by rw [hml]; rfl) (lenOf pd_10 rfl) (Nat.le_of_eq rfl) (hb hby at_266) (by decide) (by decide) rfl ?_
        rintro T854 v854 L854 X854 ⟨rfl, hO854, hm2854, hm3854⟩
        have e854 : T854.heap = T854.heap := rfl
        have O854 := O847.call hO854 (allS (Or.inr ge_m2) (allS (Or.inr ge_m3) all0))
        refine E.iload (q := 271) X854 hx (hb hby at_269) rfl ?_
        refine E.iconst (q := 272) (v := (2 : Int32)) X854 hx (hb hby at_271) rfl ?_
        refine E.icmpY (q := 320) X854 hx (hb hby at_272) (XT.ii_lt_t (by decide)) ?_
        refine E.iload (q := 322) X854 hx (hb hby at_320) rfl ?_
        refine E.iload (q := 324) X854 hx (hb hby at_322) rfl ?_
        obtain ⟨lq855, cq855, sq855, Xp855, Op855, hcq855, hsq855⟩ : ∃ (lq : List Loc) (cq sq : Nat), Stand p l e room_1 s m #[(.long pp0), (.long pp1), (.long pp2), (.long pp3), (.long pp4), (.long pp5)] below meth c T854 lq cq sq ∧ Ok h0 T854.heap [] lq ∧ cq = 12 ∧ sq = 39 := ⟨_, _, _, X854, O854, rfl, rfl⟩
        subst hcq855 hsq855
        have JF0 : ∀ (Tf0 : State), Stand p l e room_1 s m #[(.long pp0), (.long pp1), (.long pp2), (.long pp3), (.long pp4), (.long pp5)] below meth c Tf0 lq855 12 39 → Tf0.heap = T854.heap → ∀ F0 : Int32, F0 = own_nb [own_bi f0 bv, own_bi t0 bv, own_bi w0 bw, own_bi r0 br, own_bd (own_m s0), own_bd (own_m e0_), own_bd (own_m c0), own_bd (own_m d0)] → Ends p e below s (fun v h L => v = some (.int 1) ∧ Fr h0.size L) room_1.cells room_1.slots Tf0 (mkF m 402 #[.val (.long pp0), .second, .val (.long pp1), .second, .val (.long pp2), .second, .val (.long pp3), .second, .val (.long pp4), .second, .val (.long pp5), .second, .val (.int bv), .val (.int bw), .val (.int br), .val (.int ct), .val (.int (1 : Int32)), .val (.int (1 : Int32)), .val (.int s0), .val (.int e0_), .val (.int c0), .val (.int d0), .val (.int s1), .val (.int e1), .val (.int cc1), .val (.int d1), .val (.int f0), .val (.int t0), .val (.int w0), .val (.int r0), .val (.int f1), .val (.int t1), .val (.int w1), .val (.int r1), .val (.ref b652), .val (.ref b841), .unset, .unset, .unset] [(.int F0)]) := by
          intro Tf0 Xf0 ef0 F0 hF0
          refine E.istore (q := 404) (l' := #[.val (.long pp0), .second, .val (.long pp1), .second, .val (.long pp2), .second, .val (.long pp3), .second, .val (.long pp4), .second, .val (.long pp5), .second, .val (.int bv), .val (.int bw), .val (.int br), .val (.int ct), .val (.int (1 : Int32)), .val (.int (1 : Int32)), .val (.int s0), .val (.int e0_), .val (.int c0), .val (.int d0), .val (.int s1), .val (.int e1), .val (.int cc1), .val (.int d1), .val (.int f0), .val (.int t0), .val (.int w0), .val (.int r0), .val (.int f1), .val (.int t1), .val (.int w1), .val (.int r1), .val (.ref b652), .val (.ref b841), .val (.int F0), .unset, .unset]) Xf0 hx (hb hby at_402) rfl ?_
          refine E.iload (q := 406) Xf0 hx (hb hby at_404) rfl ?_
          refine E.iload (q := 408) Xf0 hx (hb hby at_406) rfl ?_
          obtain ⟨lq872, cq872, sq872, Xp872, Op872, hcq872, hsq872⟩ : ∃ (lq : List Loc) (cq sq : Nat), Stand p l e room_1 s m #[(.long pp0), (.long pp1), (.long pp2), (.long pp3), (.long pp4), (.long pp5)] below meth c Tf0 lq cq sq ∧ Ok h0 T854.heap [] lq ∧ cq = 12 ∧ sq = 39 := ⟨_, _, _, Xf0, Op855, rfl, rfl⟩
          subst hcq872 hsq872
          have JF1 : ∀ (Tf1 : State), Stand p l e room_1 s m #[(.long pp0), (.long pp1), (.long pp2), (.long pp3), (.long pp4), (.long pp5)] below meth c Tf1 lq872 12 39 → Tf1.heap = T854.heap → ∀ F1 : Int32, F1 = own_nb [own_bi f1 bv, own_bi t1 bv, own_bi w1 bw, own_bi r1 br, own_bd (own_m s1), own_bd (own_m e1), own_bd (own_m cc1), own_bd (own_m d1)] → Ends p e below s (fun v h L => v = some (.int 1) ∧ Fr h0.size L) room_1.cells room_1.slots Tf1 (mkF m 486 #[.val (.long pp0), .second, .val (.long pp1), .second, .val (.long pp2), .second, .val (.long pp3), .second, .val (.long pp4), .second, .val (.long pp5), .second, .val (.int bv), .val (.int bw), .val (.int br), .val (.int ct), .val (.int (1 : Int32)), .val (.int (1 : Int32)), .val (.int s0), .val (.int e0_), .val (.int c0), .val (.int d0), .val (.int s1), .val (.int e1), .val (.int cc1), .val (.int d1), .val (.int f0), .val (.int t0), .val (.int w0), .val (.int r0), .val (.int f1), .val (.int t1), .val (.int w1), .val (.int r1), .val (.ref b652), .val (.ref b841), .val (.int F0), .unset, .unset] [(.int F1)]) := by
            intro Tf1 Xf1 ef1 F1 hF1
            refine E.istore (q := 488) (l' := #[.val (.long pp0), .second, .val (.long pp1), .second, .val (.long pp2), .second, .val (.long pp3), .second, .val (.long pp4), .second, .val (.long pp5), .second, .val (.int bv), .val (.int bw), .val (.int br), .val (.int ct), .val (.int (1 : Int32)), .val (.int (1 : Int32)), .val (.int s0), .val (.int e0_), .val (.int c0), .val (.int d0), .val (.int s1), .val (.int e1), .val (.int cc1), .val (.int d1), .val (.int f0), .val (.int t0), .val (.int w0), .val (.int r0), .val (.int f1), .val (.int t1), .val (.int w1), .val (.int r1), .val (.ref b652), .val (.ref b841), .val (.int F0), .val (.int F1), .unset]) Xf1 hx (hb hby at_486) rfl ?_
            refine E.iload (q := 490) Xf1 hx (hb hby at_488) rfl ?_
            refine E.ifY (q := 499) Xf1 hx (hb hby at_490) (XT.i0_ne_t (by decide)) ?_
            refine E.iload (q := 501) Xf1 hx (hb hby at_499) rfl ?_
            by_cases hz0 : F0 = (0 : Int32)
            · refine E.ifN (q := 504) Xf1 hx (hb hby at_501) (XT.i0_ne_f hz0) ?_
              refine E.iconst (q := 505) (v := (0 : Int32)) Xf1 hx (hb hby at_504) rfl ?_
              refine E.istore (q := 507) (l' := #[.val (.long pp0), .second, .val (.long pp1), .second, .val (.long pp2), .second, .val (.long pp3), .second, .val (.long pp4), .second, .val (.long pp5), .second, .val (.int bv), .val (.int bw), .val (.int br), .val (.int ct), .val (.int (1 : Int32)), .val (.int (1 : Int32)), .val (.int s0), .val (.int e0_), .val (.int c0), .val (.int d0), .val (.int s1), .val (.int e1), .val (.int cc1), .val (.int d1), .val (.int f0), .val (.int t0), .val (.int w0), .val (.int r0), .val (.int f1), .val (.int t1), .val (.int w1), .val (.int r1), .val (.ref b652), .val (.ref b841), .val (.int F0), .val (.int F1), .val (.int (0 : Int32))]) Xf1 hx (hb hby at_505) rfl ?_
              refine E.goto (q := 536) Xf1 hx (hb hby at_507) ?_
              refine E.aload (q := 538) Xf1 hx (hb hby at_536) rfl rfl ?_
              refine E.aload (q := 540) Xf1 hx (hb hby at_538) rfl rfl ?_
              have f889 := f853.keep hO854.1
              have f890 := hFn847.keep hO854.1 (ninS (Nat.ne_of_lt (Nat.lt_trans ch0 (Nat.lt_trans ch1 (Nat.lt_trans ch2 (Nat.lt_trans ch3 (Nat.lt_trans ch4 (Nat.lt_trans ch5 (Nat.lt_trans ch6 (Nat.lt_trans ch7 ch8))))))))) (ninS (Nat.ne_of_lt (Nat.lt_trans ch0 (Nat.lt_trans ch1 (Nat.lt_trans ch2 (Nat.lt_trans ch3 (Nat.lt_trans ch4 (Nat.lt_trans ch5 (Nat.lt_trans ch6 (Nat.lt_trans ch7 (Nat.lt_trans ch8 ch9)))))))))) nin0))
              have f891 := hFm847.keep hO854.1 (ninS (Nat.ne_of_lt (Nat.lt_trans ch0 (Nat.lt_trans ch1 (Nat.lt_trans ch2 (Nat.lt_trans ch3 (Nat.lt_trans ch4 (Nat.lt_trans ch5 (Nat.lt_trans ch6 (Nat.lt_trans ch7 ch8))))))))) (ninS (Nat.ne_of_lt (Nat.lt_trans ch0 (Nat.lt_trans ch1 (Nat.lt_trans ch2 (Nat.lt_trans ch3 (Nat.lt_trans ch4 (Nat.lt_trans ch5 (Nat.lt_trans ch6 (Nat.lt_trans ch7 (Nat.lt_trans ch8 ch9)))))))))) nin0))
              have f892 := hFs847.keep hO854.1 (ninS (Nat.ne_of_lt (Nat.lt_trans ch0 (Nat.lt_trans ch1 (Nat.lt_trans ch2 (Nat.lt_trans ch3 (Nat.lt_trans ch4 (Nat.lt_trans ch5 (Nat.lt_trans ch6 (Nat.lt_trans ch7 ch8))))))))) (ninS (Nat.ne_of_lt (Nat.lt_trans ch0 (Nat.lt_trans ch1 (Nat.lt_trans ch2 (Nat.lt_trans ch3 (Nat.lt_trans ch4 (Nat.lt_trans ch5 (Nat.lt_trans ch6 (Nat.lt_trans ch7 (Nat.lt_trans ch8 ch9)))))))))) nin0))
              have f893 := f842.keep hO843.1 (ninS (Nat.ne_of_lt (Nat.lt_of_lt_of_eq V656.lt g841.symm)) nin0)
              have f894 := f893.keep hO847.1 (ninS (Nat.ne_of_lt (Nat.lt_of_lt_of_eq V656.lt g841.symm)) (ninS (Nat.ne_of_lt (Nat.lt_trans nb_nA (Nat.lt_trans ch1 ch2))) (ninS (Nat.ne_of_lt (Nat.lt_trans nb_nA (Nat.lt_trans ch1 (Nat.lt_trans ch2 ch3)))) (ninS (Nat.ne_of_lt (Nat.lt_trans nb_nA (Nat.lt_trans ch1 (Nat.lt_trans ch2 (Nat.lt_trans ch3 ch4))))) (ninS (Nat.ne_of_lt (Nat.lt_trans nb_nA (Nat.lt_trans ch1 (Nat.lt_trans ch2 (Nat.lt_trans ch3 (Nat.lt_trans ch4 ch5)))))) (ninS (Nat.ne_of_lt (Nat.lt_trans nb_nA (Nat.lt_trans ch1 (Nat.lt_trans ch2 (Nat.lt_trans ch3 (Nat.lt_trans ch4 (Nat.lt_trans ch5 ch6))))))) (ninS (Nat.ne_of_lt (Nat.lt_trans nb_nA (Nat.lt_trans ch1 (Nat.lt_trans ch2 (Nat.lt_trans ch3 (Nat.lt_trans ch4 (Nat.lt_trans ch5 (Nat.lt_trans ch6 ch7)))))))) nin0)))))))
              have f895 := f894.keep hO854.1 (ninS (Nat.ne_of_lt (Nat.lt_trans nb_nA (Nat.lt_trans ch1 (Nat.lt_trans ch2 (Nat.lt_trans ch3 (Nat.lt_trans ch4 (Nat.lt_trans ch5 (Nat.lt_trans ch6 (Nat.lt_trans ch7 ch8))))))))) (ninS (Nat.ne_of_lt (Nat.lt_trans nb_nA (Nat.lt_trans ch1 (Nat.lt_trans ch2 (Nat.lt_trans ch3 (Nat.lt_trans ch4 (Nat.lt_trans ch5 (Nat.lt_trans ch6 (Nat.lt_trans ch7 (Nat.lt_trans ch8 ch9)))))))))) nin0))
              have f896 := VnA_843.keep hO847.1 (ninS (Ne.symm (Nat.ne_of_lt ch0)) (ninS (Nat.ne_of_lt (Nat.lt_trans ch1 ch2)) (ninS (Nat.ne_of_lt (Nat.lt_trans ch1 (Nat.lt_trans ch2 ch3))) (ninS (Nat.ne_of_lt (Nat.lt_trans ch1 (Nat.lt_trans ch2 (Nat.lt_trans ch3 ch4)))) (ninS (Nat.ne_of_lt (Nat.lt_trans ch1 (Nat.lt_trans ch2 (Nat.lt_trans ch3 (Nat.lt_trans ch4 ch5))))) (ninS (Nat.ne_of_lt (Nat.lt_trans ch1 (Nat.lt_trans ch2 (Nat.lt_trans ch3 (Nat.lt_trans ch4 (Nat.lt_trans ch5 ch6)))))) (ninS (Nat.ne_of_lt (Nat.lt_trans ch1 (Nat.lt_trans ch2 (Nat.lt_trans ch3 (Nat.lt_trans ch4 (Nat.lt_trans ch5 (Nat.lt_trans ch6 ch7))))))) nin0)))))))
              have f897 := f896.keep hO854.1 (ninS (Nat.ne_of_lt (Nat.lt_trans ch1 (Nat.lt_trans ch2 (Nat.lt_trans ch3 (Nat.lt_trans ch4 (Nat.lt_trans ch5 (Nat.lt_trans ch6 (Nat.lt_trans ch7 ch8)))))))) (ninS (Nat.ne_of_lt (Nat.lt_trans ch1 (Nat.lt_trans ch2 (Nat.lt_trans ch3 (Nat.lt_trans ch4 (Nat.lt_trans ch5 (Nat.lt_trans ch6 (Nat.lt_trans ch7 (Nat.lt_trans ch8 ch9))))))))) nin0))
              have f898 := f850.keep hO854.1 (ninS (Nat.ne_of_lt (Nat.lt_trans ch2 (Nat.lt_trans ch3 (Nat.lt_trans ch4 (Nat.lt_trans ch5 (Nat.lt_trans ch6 (Nat.lt_trans ch7 ch8))))))) (ninS (Nat.ne_of_lt (Nat.lt_trans ch2 (Nat.lt_trans ch3 (Nat.lt_trans ch4 (Nat.lt_trans ch5 (Nat.lt_trans ch6 (Nat.lt_trans ch7 (Nat.lt_trans ch8 ch9)))))))) nin0))
              have f899 := hn0847.keep hO854.1 (ninS (Nat.ne_of_lt (Nat.lt_trans ch3 (Nat.lt_trans ch4 (Nat.lt_trans ch5 (Nat.lt_trans ch6 (Nat.lt_trans ch7 ch8)))))) (ninS (Nat.ne_of_lt (Nat.lt_trans ch3 (Nat.lt_trans ch4 (Nat.lt_trans ch5 (Nat.lt_trans ch6 (Nat.lt_trans ch7 (Nat.lt_trans ch8 ch9))))))) nin0))
              have f900 := hn1847.keep hO854.1 (ninS (Nat.ne_of_lt (Nat.lt_trans ch4 (Nat.lt_trans ch5 (Nat.lt_trans ch6 (Nat.lt_trans ch7 ch8))))) (ninS (Nat.ne_of_lt (Nat.lt_trans ch4 (Nat.lt_trans ch5 (Nat.lt_trans ch6 (Nat.lt_trans ch7 (Nat.lt_trans ch8 ch9)))))) nin0))
              have f901 := hn2847.keep hO854.1 (ninS (Nat.ne_of_lt (Nat.lt_trans ch5 (Nat.lt_trans ch6 (Nat.lt_trans ch7 ch8)))) (ninS (Nat.ne_of_lt (Nat.lt_trans ch5 (Nat.lt_trans ch6 (Nat.lt_trans ch7 (Nat.lt_trans ch8 ch9))))) nin0))
              have f902 := hn3847.keep hO854.1 (ninS (Nat.ne_of_lt (Nat.lt_trans ch6 (Nat.lt_trans ch7 ch8))) (ninS (Nat.ne_of_lt (Nat.lt_trans ch6 (Nat.lt_trans ch7 (Nat.lt_trans ch8 ch9)))) nin0))
              have f903 := hm0847.keep hO854.1 (ninS (Nat.ne_of_lt (Nat.lt_trans ch7 ch8)) (ninS (Nat.ne_of_lt (Nat.lt_trans ch7 (Nat.lt_trans ch8 ch9))) nin0))
              have f904 := hm1847.keep hO854.1 (ninS (Nat.ne_of_lt ch8) (ninS (Nat.ne_of_lt (Nat.lt_trans ch8 ch9)) nin0))
              refine Ends.callV Xf1 hx hZ hown (hw _ (List.mem_of_getElem? (i := 54) rfl)) (hw _ (List.mem_of_getElem? (i := 55) rfl)) (hw _ (List.mem_of_getElem? (i := 57) rfl)) (hw _ (List.mem_of_getElem? (i := 56) rfl)) (hw _ (List.mem_of_getElem? (i := 10) rfl)) (hw _ (List.mem_of_getElem? (i := 58) rfl)) (by decide) (argsL := [(.ref b652)]) (rest := []) ef1 f889 (rmF1 l Z a0 hw b841 b652 (1 : Int32) nA mA n0 n1 n2 n3 m0 m1 m2 m3 f0 (0 : Int32) (0 : Int32) t0 (0 : Int32) (0 : Int32) w0 (0 : Int32) (0 : Int32) r0 (0 : Int32) (0 : Int32) (own_m s0) (0 : UInt64) (0 : UInt64) (own_m e0_) (0 : UInt64) (0 : UInt64) (own_m c0) (0 : UInt64) (0 : UInt64) (own_m d0) (0 : UInt64) (0 : UInt64) bv bv bw br (own_bi f0 bv, own_bi (0 : Int32) bv) (own_bi t0 bv, own_bi (0 : Int32) bv) (own_bi w0 bw, own_bi (0 : Int32) bw) (own_bi r0 br, own_bi (0 : Int32) br) (own_bd (own_m s0), own_bd (0 : UInt64)) (own_bd (own_m e0_), own_bd (0 : UInt64)) (own_bd (own_m c0), own_bd (0 : UInt64)) (own_bd (own_m d0), own_bd (0 : UInt64)) T854.heap (by decide) f889 f890 f891 f892 (own_sta_keep S0 Op872.1 own_ns0) f895 f897 f898 f899 f900 f901 f902 f903 f904 hm2854 hm3854 rfl rfl rfl rfl rfl rfl rfl rfl) (W := 0) (by decide) (by decide) (by rw [hml]; rfl) (lenOf pd_6 rfl) (Nat.le_of_eq rfl) (hb hby at_540) (by decide) (by decide) rfl ?_
              rintro T905 v905 L905 X905 ⟨rfl, e905, rfl⟩
              rw [List.append_nil] at X905
              refine E.iload (q := 545) X905 hx (hb hby at_543) rfl ?_
              refine E.icmpN (q := 548) X905 hx (hb hby at_545) (XT.ii_ne_f (own_f10 (hF0.symm.trans hz0))) ?_
              refine E.aload (q := 550) X905 hx (hb hby at_548) rfl rfl ?_
              refine Ends.callV X905 hx hZ hown (hw _ (List.mem_of_getElem? (i := 59) rfl)) (hw _ (List.mem_of_getElem? (i := 60) rfl)) (hw _ (List.mem_of_getElem? (i := 62) rfl)) (hw _ (List.mem_of_getElem? (i := 61) rfl)) (hw _ (List.mem_of_getElem? (i := 10) rfl)) (hw _ (List.mem_of_getElem? (i := 63) rfl)) (by decide) (argsL := []) (rest := []) e905 f889 (rm11 l Z a0 hw b841 (1 : Int32) T854.heap f892) (W := 0) (by decide) (by decide) (by rw [hml]; rfl) (lenOf pd_7 rfl) (Nat.le_of_eq rfl) (hb hby at_550) (by decide) (by decide) rfl ?_
              rintro T906 v906 L906 X906 ⟨rfl, e906, rfl⟩
              rw [List.append_nil] at X906
              refine E.iload (q := 555) X906 hx (hb hby at_553) rfl ?_
              refine E.icmpN (q := 558) X906 hx (hb hby at_555) (XT.ii_ne_f (by decide)) ?_
              refine E.iconst (q := 559) (v := (1 : Int32)) X906 hx (hb hby at_558) rfl ?_
              refine E.goto (q := 563) X906 hx (hb hby at_559) ?_
              exact Ends.retS X906 hx hlk hret (by simp) rfl (hb hby at_563) (by decide) (by decide) ⟨rfl, Op872.fr⟩
            · refine E.ifY (q := 510) Xf1 hx (hb hby at_501) (XT.i0_ne_t hz0) ?_
              refine E.iload (q := 512) Xf1 hx (hb hby at_510) rfl ?_
              refine E.iconst (q := 513) (v := (1 : Int32)) Xf1 hx (hb hby at_512) rfl ?_
              refine E.icmpN (q := 516) Xf1 hx (hb hby at_513) (XT.ii_ne_f (by decide)) ?_
              refine E.iconst (q := 517) (v := (1 : Int32)) Xf1 hx (hb hby at_516) rfl ?_
              refine E.istore (q := 519) (l' := #[.val (.long pp0), .second, .val (.long pp1), .second, .val (.long pp2), .second, .val (.long pp3), .second, .val (.long pp4), .second, .val (.long pp5), .second, .val (.int bv), .val (.int bw), .val (.int br), .val (.int ct), .val (.int (1 : Int32)), .val (.int (1 : Int32)), .val (.int s0), .val (.int e0_), .val (.int c0), .val (.int d0), .val (.int s1), .val (.int e1), .val (.int cc1), .val (.int d1), .val (.int f0), .val (.int t0), .val (.int w0), .val (.int r0), .val (.int f1), .val (.int t1), .val (.int w1), .val (.int r1), .val (.ref b652), .val (.ref b841), .val (.int F0), .val (.int F1), .val (.int (1 : Int32))]) Xf1 hx (hb hby at_517) rfl ?_
              refine E.goto (q := 536) Xf1 hx (hb hby at_519) ?_
              refine E.aload (q := 538) Xf1 hx (hb hby at_536) rfl rfl ?_
              refine E.aload (q := 540) Xf1 hx (hb hby at_538) rfl rfl ?_
              have f907 := f853.keep hO854.1
              have f908 := hFn847.keep hO854.1 (ninS (Nat.ne_of_lt (Nat.lt_trans ch0 (Nat.lt_trans ch1 (Nat.lt_trans ch2 (Nat.lt_trans ch3 (Nat.lt_trans ch4 (Nat.lt_trans ch5 (Nat.lt_trans ch6 (Nat.lt_trans ch7 ch8))))))))) (ninS (Nat.ne_of_lt (Nat.lt_trans ch0 (Nat.lt_trans ch1 (Nat.lt_trans ch2 (Nat.lt_trans ch3 (Nat.lt_trans ch4 (Nat.lt_trans ch5 (Nat.lt_trans ch6 (Nat.lt_trans ch7 (Nat.lt_trans ch8 ch9)))))))))) nin0))
              have f909 := hFm847.keep hO854.1 (ninS (Nat.ne_of_lt (Nat.lt_trans ch0 (Nat.lt_trans ch1 (Nat.lt_trans ch2 (Nat.lt_trans ch3 (Nat.lt_trans ch4 (Nat.lt_trans ch5 (Nat.lt_trans ch6 (Nat.lt_trans ch7 ch8))))))))) (ninS (Nat.ne_of_lt (Nat.lt_trans ch0 (Nat.lt_trans ch1 (Nat.lt_trans ch2 (Nat.lt_trans ch3 (Nat.lt_trans ch4 (Nat.lt_trans ch5 (Nat.lt_trans ch6 (Nat.lt_trans ch7 (Nat.lt_trans ch8 ch9)))))))))) nin0))
              have f910 := hFs847.keep hO854.1 (ninS (Nat.ne_of_lt (Nat.lt_trans ch0 (Nat.lt_trans ch1 (Nat.lt_trans ch2 (Nat.lt_trans ch3 (Nat.lt_trans ch4 (Nat.lt_trans ch5 (Nat.lt_trans ch6 (Nat.lt_trans ch7 ch8))))))))) (ninS (Nat.ne_of_lt (Nat.lt_trans ch0 (Nat.lt_trans ch1 (Nat.lt_trans ch2 (Nat.lt_trans ch3 (Nat.lt_trans ch4 (Nat.lt_trans ch5 (Nat.lt_trans ch6 (Nat.lt_trans ch7 (Nat.lt_trans ch8 ch9)))))))))) nin0))
              have f911 := f842.keep hO843.1 (ninS (Nat.ne_of_lt (Nat.lt_of_lt_of_eq V656.lt g841.symm)) nin0)
              have f912 := f911.keep hO847.1 (ninS (Nat.ne_of_lt (Nat.lt_of_lt_of_eq V656.lt g841.symm)) (ninS (Nat.ne_of_lt (Nat.lt_trans nb_nA (Nat.lt_trans ch1 ch2))) (ninS (Nat.ne_of_lt (Nat.lt_trans nb_nA (Nat.lt_trans ch1 (Nat.lt_trans ch2 ch3)))) (ninS (Nat.ne_of_lt (Nat.lt_trans nb_nA (Nat.lt_trans ch1 (Nat.lt_trans ch2 (Nat.lt_trans ch3 ch4))))) (ninS (Nat.ne_of_lt (Nat.lt_trans nb_nA (Nat.lt_trans ch1 (Nat.lt_trans ch2 (Nat.lt_trans ch3 (Nat.lt_trans ch4 ch5)))))) (ninS (Nat.ne_of_lt (Nat.lt_trans nb_nA (Nat.lt_trans ch1 (Nat.lt_trans ch2 (Nat.lt_trans ch3 (Nat.lt_trans ch4 (Nat.lt_trans ch5 ch6))))))) (ninS (Nat.ne_of_lt (Nat.lt_trans nb_nA (Nat.lt_trans ch1 (Nat.lt_trans ch2 (Nat.lt_trans ch3 (Nat.lt_trans ch4 (Nat.lt_trans ch5 (Nat.lt_trans ch6 ch7)))))))) nin0)))))))
              have f913 := f912.keep hO854.1 (ninS (Nat.ne_of_lt (Nat.lt_trans nb_nA (Nat.lt_trans ch1 (Nat.lt_trans ch2 (Nat.lt_trans ch3 (Nat.lt_trans ch4 (Nat.lt_trans ch5 (Nat.lt_trans ch6 (Nat.lt_trans ch7 ch8))))))))) (ninS (Nat.ne_of_lt (Nat.lt_trans nb_nA (Nat.lt_trans ch1 (Nat.lt_trans ch2 (Nat.lt_trans ch3 (Nat.lt_trans ch4 (Nat.lt_trans ch5 (Nat.lt_trans ch6 (Nat.lt_trans ch7 (Nat.lt_trans ch8 ch9)))))))))) nin0))
              have f914 := VnA_843.keep hO847.1 (ninS (Ne.symm (Nat.ne_of_lt ch0)) (ninS (Nat.ne_of_lt (Nat.lt_trans ch1 ch2)) (ninS (Nat.ne_of_lt (Nat.lt_trans ch1 (Nat.lt_trans ch2 ch3))) (ninS (Nat.ne_of_lt (Nat.lt_trans ch1 (Nat.lt_trans ch2 (Nat.lt_trans ch3 ch4)))) (ninS (Nat.ne_of_lt (Nat.lt_trans ch1 (Nat.lt_trans ch2 (Nat.lt_trans ch3 (Nat.lt_trans ch4 ch5))))) (ninS (Nat.ne_of_lt (Nat.lt_trans ch1 (Nat.lt_trans ch2 (Nat.lt_trans ch3 (Nat.lt_trans ch4 (Nat.lt_trans ch5 ch6)))))) (ninS (Nat.ne_of_lt (Nat.lt_trans ch1 (Nat.lt_trans ch2 (Nat.lt_trans ch3 (Nat.lt_trans ch4 (Nat.lt_trans ch5 (Nat.lt_trans ch6 ch7))))))) nin0)))))))
              have f915 := f914.keep hO854.1 (ninS (Nat.ne_of_lt (Nat.lt_trans ch1 (Nat.lt_trans ch2 (Nat.lt_trans ch3 (Nat.lt_trans ch4 (Nat.lt_trans ch5 (Nat.lt_trans ch6 (Nat.lt_trans ch7 ch8)))))))) (ninS (Nat.ne_of_lt (Nat.lt_trans ch1 (Nat.lt_trans ch2 (Nat.lt_trans ch3 (Nat.lt_trans ch4 (Nat.lt_trans ch5 (Nat.lt_trans ch6 (Nat.lt_trans ch7 (Nat.lt_trans ch8 ch9))))))))) nin0))
              have f916 := f850.keep hO854.1 (ninS (Nat.ne_of_lt (Nat.lt_trans ch2 (Nat.lt_trans ch3 (Nat.lt_trans ch4 (Nat.lt_trans ch5 (Nat.lt_trans ch6 (Nat.lt_trans ch7 ch8))))))) (ninS (Nat.ne_of_lt (Nat.lt_trans ch2 (Nat.lt_trans ch3 (Nat.lt_trans ch4 (Nat.lt_trans ch5 (Nat.lt_trans ch6 (Nat.lt_trans ch7 (Nat.lt_trans ch8 ch9)))))))) nin0))
              have f917 := hn0847.keep hO854.1 (ninS (Nat.ne_of_lt (Nat.lt_trans ch3 (Nat.lt_trans ch4 (Nat.lt_trans ch5 (Nat.lt_trans ch6 (Nat.lt_trans ch7 ch8)))))) (ninS (Nat.ne_of_lt (Nat.lt_trans ch3 (Nat.lt_trans ch4 (Nat.lt_trans ch5 (Nat.lt_trans ch6 (Nat.lt_trans ch7 (Nat.lt_trans ch8 ch9))))))) nin0))
              have f918 := hn1847.keep hO854.1 (ninS (Nat.ne_of_lt (Nat.lt_trans ch4 (Nat.lt_trans ch5 (Nat.lt_trans ch6 (Nat.lt_trans ch7 ch8))))) (ninS (Nat.ne_of_lt (Nat.lt_trans ch4 (Nat.lt_trans ch5 (Nat.lt_trans ch6 (Nat.lt_trans ch7 (Nat.lt_trans ch8 ch9)))))) nin0))
              have f919 := hn2847.keep hO854.1 (ninS (Nat.ne_of_lt (Nat.lt_trans ch5 (Nat.lt_trans ch6 (Nat.lt_trans ch7 ch8)))) (ninS (Nat.ne_of_lt (Nat.lt_trans ch5 (Nat.lt_trans ch6 (Nat.lt_trans ch7 (Nat.lt_trans ch8 ch9))))) nin0))
              have f920 := hn3847.keep hO854.1 (ninS (Nat.ne_of_lt (Nat.lt_trans ch6 (Nat.lt_trans ch7 ch8))) (ninS (Nat.ne_of_lt (Nat.lt_trans ch6 (Nat.lt_trans ch7 (Nat.lt_trans ch8 ch9)))) nin0))
              have f921 := hm0847.keep hO854.1 (ninS (Nat.ne_of_lt (Nat.lt_trans ch7 ch8)) (ninS (Nat.ne_of_lt (Nat.lt_trans ch7 (Nat.lt_trans ch8 ch9))) nin0))
              have f922 := hm1847.keep hO854.1 (ninS (Nat.ne_of_lt ch8) (ninS (Nat.ne_of_lt (Nat.lt_trans ch8 ch9)) nin0))
              refine Ends.callV Xf1 hx hZ hown (hw _ (List.mem_of_getElem? (i := 54) rfl)) (hw _ (List.mem_of_getElem? (i := 55) rfl)) (hw _ (List.mem_of_getElem? (i := 57) rfl)) (hw _ (List.mem_of_getElem? (i := 56) rfl)) (hw _ (List.mem_of_getElem? (i := 10) rfl)) (hw _ (List.mem_of_getElem? (i := 58) rfl)) (by decide) (argsL := [(.ref b652)]) (rest := []) ef1 f907 (rmF1 l Z a0 hw b841 b652 (1 : Int32) nA mA n0 n1 n2 n3 m0 m1 m2 m3 f0 (0 : Int32) (0 : Int32) t0 (0 : Int32) (0 : Int32) w0 (0 : Int32) (0 : Int32) r0 (0 : Int32) (0 : Int32) (own_m s0) (0 : UInt64) (0 : UInt64) (own_m e0_) (0 : UInt64) (0 : UInt64) (own_m c0) (0 : UInt64) (0 : UInt64) (own_m d0) (0 : UInt64) (0 : UInt64) bv bv bw br (own_bi f0 bv, own_bi (0 : Int32) bv) (own_bi t0 bv, own_bi (0 : Int32) bv) (own_bi w0 bw, own_bi (0 : Int32) bw) (own_bi r0 br, own_bi (0 : Int32) br) (own_bd (own_m s0), own_bd (0 : UInt64)) (own_bd (own_m e0_), own_bd (0 : UInt64)) (own_bd (own_m c0), own_bd (0 : UInt64)) (own_bd (own_m d0), own_bd (0 : UInt64)) T854.heap (by decide) f907 f908 f909 f910 (own_sta_keep S0 Op872.1 own_ns0) f913 f915 f916 f917 f918 f919 f920 f921 f922 hm2854 hm3854 rfl rfl rfl rfl rfl rfl rfl rfl) (W := 0) (by decide) (by decide) (by rw [hml]; rfl) (lenOf pd_6 rfl) (Nat.le_of_eq rfl) (hb hby at_540) (by decide) (by decide) rfl ?_
              rintro T923 v923 L923 X923 ⟨rfl, e923, rfl⟩
              rw [List.append_nil] at X923
              refine E.iload (q := 545) X923 hx (hb hby at_543) rfl ?_
              refine E.icmpN (q := 548) X923 hx (hb hby at_545) (XT.ii_ne_f (own_f11 (fun q => hz0 (hF0.trans q)))) ?_
              refine E.aload (q := 550) X923 hx (hb hby at_548) rfl rfl ?_
              refine Ends.callV X923 hx hZ hown (hw _ (List.mem_of_getElem? (i := 59) rfl)) (hw _ (List.mem_of_getElem? (i := 60) rfl)) (hw _ (List.mem_of_getElem? (i := 62) rfl)) (hw _ (List.mem_of_getElem? (i := 61) rfl)) (hw _ (List.mem_of_getElem? (i := 10) rfl)) (hw _ (List.mem_of_getElem? (i := 63) rfl)) (by decide) (argsL := []) (rest := []) e923 f907 (rm11 l Z a0 hw b841 (1 : Int32) T854.heap f910) (W := 0) (by decide) (by decide) (by rw [hml]; rfl) (lenOf pd_7 rfl) (Nat.le_of_eq rfl) (hb hby at_550) (by decide) (by decide) rfl ?_
              rintro T924 v924 L924 X924 ⟨rfl, e924, rfl⟩
              rw [List.append_nil] at X924
              refine E.iload (q := 555) X924 hx (hb hby at_553) rfl ?_
              refine E.icmpN (q := 558) X924 hx (hb hby at_555) (XT.ii_ne_f (by decide)) ?_
              refine E.iconst (q := 559) (v := (1 : Int32)) X924 hx (hb hby at_558) rfl ?_
              refine E.goto (q := 563) X924 hx (hb hby at_559) ?_
              exact Ends.retS X924 hx hlk hret (by simp) rfl (hb hby at_563) (by decide) (by decide) ⟨rfl, Op872.fr⟩
          refine Ends.callS Xp872 hx hZ hown (hw _ (List.mem_of_getElem? (i := 51) rfl)) (hw _ (List.mem_of_getElem? (i := 52) rfl)) (hw _ (List.mem_of_getElem? (i := 2) rfl)) (hw _ (List.mem_of_getElem? (i := 53) rfl)) (by decide) (argsL := [(.int f1), (.int bv)]) (rest := []) ef0 (rm9 l Z a0 hw f1 bv T854.heap) (W := 0) (by decide) (by decide) (by rw [hml]; rfl) (lenOf pd_4 rfl) (Nat.le_of_eq rfl) (hb hby at_408) (by decide) (by decide) rfl ?_
          rintro T873 v873 L873 X873 ⟨rfl, e873, rfl⟩
          rw [List.append_nil] at X873
          by_cases hb874_1 : (own_in f1 bv) = (0 : Int32)
          · refine E.ifY (q := 485) X873 hx (hb hby at_411) (XT.i0_eq_t hb874_1) ?_
            have mhb874_1 := (own_in_bi).1 hb874_1
            refine E.iconst (q := 486) (v := (0 : Int32)) X873 hx (hb hby at_485) rfl ?_
            exact JF1 T873 X873 e873 _ (own_nb0 (by simp [mhb874_1]))
          · refine E.ifN (q := 414) X873 hx (hb hby at_411) (XT.i0_eq_f hb874_1) ?_
            have mhb874_1 := (own_in_bi).2 hb874_1
            refine E.iload (q := 416) X873 hx (hb hby at_414) rfl ?_
            refine E.iload (q := 418) X873 hx (hb hby at_416) rfl ?_
            refine Ends.callS X873 hx hZ hown (hw _ (List.mem_of_getElem? (i := 51) rfl)) (hw _ (List.mem_of_getElem? (i := 52) rfl)) (hw _ (List.mem_of_getElem? (i := 2) rfl)) (hw _ (List.mem_of_getElem? (i := 53) rfl)) (by decide) (argsL := [(.int t1), (.int bv)]) (rest := []) e873 (rm9 l Z a0 hw t1 bv T854.heap) (W := 0) (by decide) (by decide) (by rw [hml]; rfl) (lenOf pd_4 rfl) (Nat.le_of_eq rfl) (hb hby at_418) (by decide) (by decide) rfl ?_
            rintro T875 v875 L875 X875 ⟨rfl, e875, rfl⟩
            rw [List.append_nil] at X875
            by_cases hb876_1 : (own_in t1 bv) = (0 : Int32)
            · refine E.ifY (q := 485) X875 hx (hb hby at_421) (XT.i0_eq_t hb876_1) ?_
              have mhb876_1 := (own_in_bi).1 hb876_1
              refine E.iconst (q := 486) (v := (0 : Int32)) X875 hx (hb hby at_485) rfl ?_
              exact JF1 T875 X875 e875 _ (own_nb0 (by simp [mhb874_1, mhb876_1]))
            · refine E.ifN (q := 424) X875 hx (hb hby at_421) (XT.i0_eq_f hb876_1) ?_
              have mhb876_1 := (own_in_bi).2 hb876_1
              refine E.iload (q := 426) X875 hx (hb hby at_424) rfl ?_
              refine E.iload (q := 428) X875 hx (hb hby at_426) rfl ?_
              refine Ends.callS X875 hx hZ hown (hw _ (List.mem_of_getElem? (i := 51) rfl)) (hw _ (List.mem_of_getElem? (i := 52) rfl)) (hw _ (List.mem_of_getElem? (i := 2) rfl)) (hw _ (List.mem_of_getElem? (i := 53) rfl)) (by decide) (argsL := [(.int w1), (.int bw)]) (rest := []) e875 (rm9 l Z a0 hw w1 bw T854.heap) (W := 0) (by decide) (by decide) (by rw [hml]; rfl) (lenOf pd_4 rfl) (Nat.le_of_eq rfl) (hb hby at_428) (by decide) (by decide) rfl ?_
              rintro T877 v877 L877 X877 ⟨rfl, e877, rfl⟩
              rw [List.append_nil] at X877
              by_cases hb878_1 : (own_in w1 bw) = (0 : Int32)
              · refine E.ifY (q := 485) X877 hx (hb hby at_431) (XT.i0_eq_t hb878_1) ?_
                have mhb878_1 := (own_in_bi).1 hb878_1
                refine E.iconst (q := 486) (v := (0 : Int32)) X877 hx (hb hby at_485) rfl ?_
                exact JF1 T877 X877 e877 _ (own_nb0 (by simp [mhb874_1, mhb876_1, mhb878_1]))
              · refine E.ifN (q := 434) X877 hx (hb hby at_431) (XT.i0_eq_f hb878_1) ?_
                have mhb878_1 := (own_in_bi).2 hb878_1
                refine E.iload (q := 436) X877 hx (hb hby at_434) rfl ?_
                refine E.iload (q := 438) X877 hx (hb hby at_436) rfl ?_
                refine Ends.callS X877 hx hZ hown (hw _ (List.mem_of_getElem? (i := 51) rfl)) (hw _ (List.mem_of_getElem? (i := 52) rfl)) (hw _ (List.mem_of_getElem? (i := 2) rfl)) (hw _ (List.mem_of_getElem? (i := 53) rfl)) (by decide) (argsL := [(.int r1), (.int br)]) (rest := []) e877 (rm9 l Z a0 hw r1 br T854.heap) (W := 0) (by decide) (by decide) (by rw [hml]; rfl) (lenOf pd_4 rfl) (Nat.le_of_eq rfl) (hb hby at_438) (by decide) (by decide) rfl ?_
                rintro T879 v879 L879 X879 ⟨rfl, e879, rfl⟩
                rw [List.append_nil] at X879
                by_cases hb880_1 : (own_in r1 br) = (0 : Int32)
                · refine E.ifY (q := 485) X879 hx (hb hby at_441) (XT.i0_eq_t hb880_1) ?_
                  have mhb880_1 := (own_in_bi).1 hb880_1
                  refine E.iconst (q := 486) (v := (0 : Int32)) X879 hx (hb hby at_485) rfl ?_
                  exact JF1 T879 X879 e879 _ (own_nb0 (by simp [mhb874_1, mhb876_1, mhb878_1, mhb880_1]))
                · refine E.ifN (q := 444) X879 hx (hb hby at_441) (XT.i0_eq_f hb880_1) ?_
                  have mhb880_1 := (own_in_bi).2 hb880_1
                  refine E.iload (q := 446) X879 hx (hb hby at_444) rfl ?_
                  refine Ends.callS X879 hx hZ hown (hw _ (List.mem_of_getElem? (i := 72) rfl)) (hw _ (List.mem_of_getElem? (i := 73) rfl)) (hw _ (List.mem_of_getElem? (i := 2) rfl)) (hw _ (List.mem_of_getElem? (i := 74) rfl)) (by decide) (argsL := [(.int s1)]) (rest := []) e879 (rm13 l Z a0 hw s1 T854.heap) (W := 0) (by decide) (by decide) (by rw [hml]; rfl) (lenOf pd_5 rfl) (Nat.le_of_eq rfl) (hb hby at_446) (by decide) (by decide) rfl ?_
                  rintro T881 v881 L881 X881 ⟨rfl, e881, rfl⟩
                  rw [List.append_nil] at X881
                  by_cases hb882_1 : (own_fi s1) = (0 : Int32)
                  · refine E.ifY (q := 485) X881 hx (hb hby at_449) (XT.i0_eq_t hb882_1) ?_
                    have mhb882_1 := (own_fi_bd ks1).1 hb882_1
                    refine E.iconst (q := 486) (v := (0 : Int32)) X881 hx (hb hby at_485) rfl ?_
                    exact JF1 T881 X881 e881 _ (own_nb0 (by simp [mhb874_1, mhb876_1, mhb878_1, mhb880_1, mhb882_1]))
                  · refine E.ifN (q := 452) X881 hx (hb hby at_449) (XT.i0_eq_f hb882_1) ?_
                    have mhb882_1 := (own_fi_bd ks1).2 hb882_1
                    refine E.iload (q := 454) X881 hx (hb hby at_452) rfl ?_
                    refine Ends.callS X881 hx hZ hown (hw _ (List.mem_of_getElem? (i := 72) rfl)) (hw _ (List.mem_of_getElem? (i := 73) rfl)) (hw _ (List.mem_of_getElem? (i := 2) rfl)) (hw _ (List.mem_of_getElem? (i := 74) rfl)) (by decide) (argsL := [(.int e1)]) (rest := []) e881 (rm13 l Z a0 hw e1 T854.heap) (W := 0) (by decide) (by decide) (by rw [hml]; rfl) (lenOf pd_5 rfl) (Nat.le_of_eq rfl) (hb hby at_454) (by decide) (by decide) rfl ?_
                    rintro T883 v883 L883 X883 ⟨rfl, e883, rfl⟩
                    rw [List.append_nil] at X883
                    by_cases hb884_1 : (own_fi e1) = (0 : Int32)
                    · refine E.ifY (q := 485) X883 hx (hb hby at_457) (XT.i0_eq_t hb884_1) ?_
                      have mhb884_1 := (own_fi_bd ke1).1 hb884_1
                      refine E.iconst (q := 486) (v := (0 : Int32)) X883 hx (hb hby at_485) rfl ?_
                      exact JF1 T883 X883 e883 _ (own_nb0 (by simp [mhb874_1, mhb876_1, mhb878_1, mhb880_1, mhb882_1, mhb884_1]))
                    · refine E.ifN (q := 460) X883 hx (hb hby at_457) (XT.i0_eq_f hb884_1) ?_
                      have mhb884_1 := (own_fi_bd ke1).2 hb884_1
                      refine E.iload (q := 462) X883 hx (hb hby at_460) rfl ?_
                      refine E.ifN (q := 465) X883 hx (hb hby at_462) (XT.i0_eq_f (by decide)) ?_
                      refine E.iload (q := 467) X883 hx (hb hby at_465) rfl ?_
                      refine Ends.callS X883 hx hZ hown (hw _ (List.mem_of_getElem? (i := 72) rfl)) (hw _ (List.mem_of_getElem? (i := 73) rfl)) (hw _ (List.mem_of_getElem? (i := 2) rfl)) (hw _ (List.mem_of_getElem? (i := 74) rfl)) (by decide) (argsL := [(.int cc1)]) (rest := []) e883 (rm13 l Z a0 hw cc1 T854.heap) (W := 0) (by decide) (by decide) (by rw [hml]; rfl) (lenOf pd_5 rfl) (Nat.le_of_eq rfl) (hb hby at_467) (by decide) (by decide) rfl ?_
                      rintro T885 v885 L885 X885 ⟨rfl, e885, rfl⟩
                      rw [List.append_nil] at X885
                      by_cases hb886_1 : (own_fi cc1) = (0 : Int32)
                      · refine E.ifY (q := 485) X885 hx (hb hby at_470) (XT.i0_eq_t hb886_1) ?_
                        have mhb886_1 := (own_fi_bd kcc1).1 hb886_1
                        refine E.iconst (q := 486) (v := (0 : Int32)) X885 hx (hb hby at_485) rfl ?_
                        exact JF1 T885 X885 e885 _ (own_nb0 (by simp [mhb874_1, mhb876_1, mhb878_1, mhb880_1, mhb882_1, mhb884_1, mhb886_1]))
                      · refine E.ifN (q := 473) X885 hx (hb hby at_470) (XT.i0_eq_f hb886_1) ?_
                        have mhb886_1 := (own_fi_bd kcc1).2 hb886_1
                        refine E.iload (q := 475) X885 hx (hb hby at_473) rfl ?_
                        refine Ends.callS X885 hx hZ hown (hw _ (List.mem_of_getElem? (i := 72) rfl)) (hw _ (List.mem_of_getElem? (i := 73) rfl)) (hw _ (List.mem_of_getElem? (i := 2) rfl)) (hw _ (List.mem_of_getElem? (i := 74) rfl)) (by decide) (argsL := [(.int d1)]) (rest := []) e885 (rm13 l Z a0 hw d1 T854.heap) (W := 0) (by decide) (by decide) (by rw [hml]; rfl) (lenOf pd_5 rfl) (Nat.le_of_eq rfl) (hb hby at_475) (by decide) (by decide) rfl ?_
                        rintro T887 v887 L887 X887 ⟨rfl, e887, rfl⟩
                        rw [List.append_nil] at X887
                        by_cases hb888_1 : (own_fi d1) = (0 : Int32)
                        · refine E.ifY (q := 485) X887 hx (hb hby at_478) (XT.i0_eq_t hb888_1) ?_
                          have mhb888_1 := (own_fi_bd kd1).1 hb888_1
                          refine E.iconst (q := 486) (v := (0 : Int32)) X887 hx (hb hby at_485) rfl ?_
                          exact JF1 T887 X887 e887 _ (own_nb0 (by simp [mhb874_1, mhb876_1, mhb878_1, mhb880_1, mhb882_1, mhb884_1, mhb886_1, mhb888_1]))
                        · refine E.ifN (q := 481) X887 hx (hb hby at_478) (XT.i0_eq_f hb888_1) ?_
                          have mhb888_1 := (own_fi_bd kd1).2 hb888_1
                          refine E.iconst (q := 482) (v := (1 : Int32)) X887 hx (hb hby at_481) rfl ?_
                          refine E.goto (q := 486) X887 hx (hb hby at_482) ?_
                          exact JF1 T887 X887 e887 _ (own_nb1 (by simp [mhb874_1, mhb876_1, mhb878_1, mhb880_1, mhb882_1, mhb884_1, mhb886_1, mhb888_1]))
        refine Ends.callS Xp855 hx hZ hown (hw _ (List.mem_of_getElem? (i := 51) rfl)) (hw _ (List.mem_of_getElem? (i := 52) rfl)) (hw _ (List.mem_of_getElem? (i := 2) rfl)) (hw _ (List.mem_of_getElem? (i := 53) rfl)) (by decide) (argsL := [(.int f0), (.int bv)]) (rest := []) e854 (rm9 l Z a0 hw f0 bv T854.heap) (W := 0) (by decide) (by decide) (by rw [hml]; rfl) (lenOf pd_4 rfl) (Nat.le_of_eq rfl) (hb hby at_324) (by decide) (by decide) rfl ?_
        rintro T856 v856 L856 X856 ⟨rfl, e856, rfl⟩
        rw [List.append_nil] at X856
        by_cases hb857_0 : (own_in f0 bv) = (0 : Int32)
        · refine E.ifY (q := 401) X856 hx (hb hby at_327) (XT.i0_eq_t hb857_0) ?_
          have mhb857_0 := (own_in_bi).1 hb857_0
          refine E.iconst (q := 402) (v := (0 : Int32)) X856 hx (hb hby at_401) rfl ?_
          exact JF0 T856 X856 e856 _ (own_nb0 (by simp [mhb857_0]))
        · refine E.ifN (q := 330) X856 hx (hb hby at_327) (XT.i0_eq_f hb857_0) ?_
          have mhb857_0 := (own_in_bi).2 hb857_0
          refine E.iload (q := 332) X856 hx (hb hby at_330) rfl ?_
          refine E.iload (q := 334) X856 hx (hb hby at_332) rfl ?_
          refine Ends.callS X856 hx hZ hown (hw _ (List.mem_of_getElem? (i := 51) rfl)) (hw _ (List.mem_of_getElem? (i := 52) rfl)) (hw _ (List.mem_of_getElem? (i := 2) rfl)) (hw _ (List.mem_of_getElem? (i := 53) rfl)) (by decide) (argsL := [(.int t0), (.int bv)]) (rest := []) e856 (rm9 l Z a0 hw t0 bv T854.heap) (W := 0) (by decide) (by decide) (by rw [hml]; rfl) (lenOf pd_4 rfl) (Nat.le_of_eq rfl) (hb hby at_334) (by decide) (by decide) rfl ?_
          rintro T858 v858 L858 X858 ⟨rfl, e858, rfl⟩
          rw [List.append_nil] at X858
          by_cases hb859_0 : (own_in t0 bv) = (0 : Int32)
          · refine E.ifY (q := 401) X858 hx (hb hby at_337) (XT.i0_eq_t hb859_0) ?_
            have mhb859_0 := (own_in_bi).1 hb859_0
            refine E.iconst (q := 402) (v := (0 : Int32)) X858 hx (hb hby at_401) rfl ?_
            exact JF0 T858 X858 e858 _ (own_nb0 (by simp [mhb857_0, mhb859_0]))
          · refine E.ifN (q := 340) X858 hx (hb hby at_337) (XT.i0_eq_f hb859_0) ?_
            have mhb859_0 := (own_in_bi).2 hb859_0
            refine E.iload (q := 342) X858 hx (hb hby at_340) rfl ?_
            refine E.iload (q := 344) X858 hx (hb hby at_342) rfl ?_
            refine Ends.callS X858 hx hZ hown (hw _ (List.mem_of_getElem? (i := 51) rfl)) (hw _ (List.mem_of_getElem? (i := 52) rfl)) (hw _ (List.mem_of_getElem? (i := 2) rfl)) (hw _ (List.mem_of_getElem? (i := 53) rfl)) (by decide) (argsL := [(.int w0), (.int bw)]) (rest := []) e858 (rm9 l Z a0 hw w0 bw T854.heap) (W := 0) (by decide) (by decide) (by rw [hml]; rfl) (lenOf pd_4 rfl) (Nat.le_of_eq rfl) (hb hby at_344) (by decide) (by decide) rfl ?_
            rintro T860 v860 L860 X860 ⟨rfl, e860, rfl⟩
            rw [List.append_nil] at X860
            by_cases hb861_0 : (own_in w0 bw) = (0 : Int32)
            · refine E.ifY (q := 401) X860 hx (hb hby at_347) (XT.i0_eq_t hb861_0) ?_
              have mhb861_0 := (own_in_bi).1 hb861_0
              refine E.iconst (q := 402) (v := (0 : Int32)) X860 hx (hb hby at_401) rfl ?_
              exact JF0 T860 X860 e860 _ (own_nb0 (by simp [mhb857_0, mhb859_0, mhb861_0]))
            · refine E.ifN (q := 350) X860 hx (hb hby at_347) (XT.i0_eq_f hb861_0) ?_
              have mhb861_0 := (own_in_bi).2 hb861_0
              refine E.iload (q := 352) X860 hx (hb hby at_350) rfl ?_
              refine E.iload (q := 354) X860 hx (hb hby at_352) rfl ?_
              refine Ends.callS X860 hx hZ hown (hw _ (List.mem_of_getElem? (i := 51) rfl)) (hw _ (List.mem_of_getElem? (i := 52) rfl)) (hw _ (List.mem_of_getElem? (i := 2) rfl)) (hw _ (List.mem_of_getElem? (i := 53) rfl)) (by decide) (argsL := [(.int r0), (.int br)]) (rest := []) e860 (rm9 l Z a0 hw r0 br T854.heap) (W := 0) (by decide) (by decide) (by rw [hml]; rfl) (lenOf pd_4 rfl) (Nat.le_of_eq rfl) (hb hby at_354) (by decide) (by decide) rfl ?_
              rintro T862 v862 L862 X862 ⟨rfl, e862, rfl⟩
              rw [List.append_nil] at X862
              by_cases hb863_0 : (own_in r0 br) = (0 : Int32)
              · refine E.ifY (q := 401) X862 hx (hb hby at_357) (XT.i0_eq_t hb863_0) ?_
                have mhb863_0 := (own_in_bi).1 hb863_0
                refine E.iconst (q := 402) (v := (0 : Int32)) X862 hx (hb hby at_401) rfl ?_
                exact JF0 T862 X862 e862 _ (own_nb0 (by simp [mhb857_0, mhb859_0, mhb861_0, mhb863_0]))
              · refine E.ifN (q := 360) X862 hx (hb hby at_357) (XT.i0_eq_f hb863_0) ?_
                have mhb863_0 := (own_in_bi).2 hb863_0
                refine E.iload (q := 362) X862 hx (hb hby at_360) rfl ?_
                refine Ends.callS X862 hx hZ hown (hw _ (List.mem_of_getElem? (i := 72) rfl)) (hw _ (List.mem_of_getElem? (i := 73) rfl)) (hw _ (List.mem_of_getElem? (i := 2) rfl)) (hw _ (List.mem_of_getElem? (i := 74) rfl)) (by decide) (argsL := [(.int s0)]) (rest := []) e862 (rm13 l Z a0 hw s0 T854.heap) (W := 0) (by decide) (by decide) (by rw [hml]; rfl) (lenOf pd_5 rfl) (Nat.le_of_eq rfl) (hb hby at_362) (by decide) (by decide) rfl ?_
                rintro T864 v864 L864 X864 ⟨rfl, e864, rfl⟩
                rw [List.append_nil] at X864
                by_cases hb865_0 : (own_fi s0) = (0 : Int32)
                · refine E.ifY (q := 401) X864 hx (hb hby at_365) (XT.i0_eq_t hb865_0) ?_
                  have mhb865_0 := (own_fi_bd ks0).1 hb865_0
                  refine E.iconst (q := 402) (v := (0 : Int32)) X864 hx (hb hby at_401) rfl ?_
                  exact JF0 T864 X864 e864 _ (own_nb0 (by simp [mhb857_0, mhb859_0, mhb861_0, mhb863_0, mhb865_0]))
                · refine E.ifN (q := 368) X864 hx (hb hby at_365) (XT.i0_eq_f hb865_0) ?_
                  have mhb865_0 := (own_fi_bd ks0).2 hb865_0
                  refine E.iload (q := 370) X864 hx (hb hby at_368) rfl ?_
                  refine Ends.callS X864 hx hZ hown (hw _ (List.mem_of_getElem? (i := 72) rfl)) (hw _ (List.mem_of_getElem? (i := 73) rfl)) (hw _ (List.mem_of_getElem? (i := 2) rfl)) (hw _ (List.mem_of_getElem? (i := 74) rfl)) (by decide) (argsL := [(.int e0_)]) (rest := []) e864 (rm13 l Z a0 hw e0_ T854.heap) (W := 0) (by decide) (by decide) (by rw [hml]; rfl) (lenOf pd_5 rfl) (Nat.le_of_eq rfl) (hb hby at_370) (by decide) (by decide) rfl ?_
                  rintro T866 v866 L866 X866 ⟨rfl, e866, rfl⟩
                  rw [List.append_nil] at X866
                  by_cases hb867_0 : (own_fi e0_) = (0 : Int32)
                  · refine E.ifY (q := 401) X866 hx (hb hby at_373) (XT.i0_eq_t hb867_0) ?_
                    have mhb867_0 := (own_fi_bd ke0_).1 hb867_0
                    refine E.iconst (q := 402) (v := (0 : Int32)) X866 hx (hb hby at_401) rfl ?_
                    exact JF0 T866 X866 e866 _ (own_nb0 (by simp [mhb857_0, mhb859_0, mhb861_0, mhb863_0, mhb865_0, mhb867_0]))
                  · refine E.ifN (q := 376) X866 hx (hb hby at_373) (XT.i0_eq_f hb867_0) ?_
                    have mhb867_0 := (own_fi_bd ke0_).2 hb867_0
                    refine E.iload (q := 378) X866 hx (hb hby at_376) rfl ?_
                    refine E.ifN (q := 381) X866 hx (hb hby at_378) (XT.i0_eq_f (by decide)) ?_
                    refine E.iload (q := 383) X866 hx (hb hby at_381) rfl ?_
                    refine Ends.callS X866 hx hZ hown (hw _ (List.mem_of_getElem? (i := 72) rfl)) (hw _ (List.mem_of_getElem? (i := 73) rfl)) (hw _ (List.mem_of_getElem? (i := 2) rfl)) (hw _ (List.mem_of_getElem? (i := 74) rfl)) (by decide) (argsL := [(.int c0)]) (rest := []) e866 (rm13 l Z a0 hw c0 T854.heap) (W := 0) (by decide) (by decide) (by rw [hml]; rfl) (lenOf pd_5 rfl) (Nat.le_of_eq rfl) (hb hby at_383) (by decide) (by decide) rfl ?_
                    rintro T868 v868 L868 X868 ⟨rfl, e868, rfl⟩
                    rw [List.append_nil] at X868
                    by_cases hb869_0 : (own_fi c0) = (0 : Int32)
                    · refine E.ifY (q := 401) X868 hx (hb hby at_386) (XT.i0_eq_t hb869_0) ?_
                      have mhb869_0 := (own_fi_bd kc0).1 hb869_0
                      refine E.iconst (q := 402) (v := (0 : Int32)) X868 hx (hb hby at_401) rfl ?_
                      exact JF0 T868 X868 e868 _ (own_nb0 (by simp [mhb857_0, mhb859_0, mhb861_0, mhb863_0, mhb865_0, mhb867_0, mhb869_0]))
                    · refine E.ifN (q := 389) X868 hx (hb hby at_386) (XT.i0_eq_f hb869_0) ?_
                      have mhb869_0 := (own_fi_bd kc0).2 hb869_0
                      refine E.iload (q := 391) X868 hx (hb hby at_389) rfl ?_
                      refine Ends.callS X868 hx hZ hown (hw _ (List.mem_of_getElem? (i := 72) rfl)) (hw _ (List.mem_of_getElem? (i := 73) rfl)) (hw _ (List.mem_of_getElem? (i := 2) rfl)) (hw _ (List.mem_of_getElem? (i := 74) rfl)) (by decide) (argsL := [(.int d0)]) (rest := []) e868 (rm13 l Z a0 hw d0 T854.heap) (W := 0) (by decide) (by decide) (by rw [hml]; rfl) (lenOf pd_5 rfl) (Nat.le_of_eq rfl) (hb hby at_391) (by decide) (by decide) rfl ?_
                      rintro T870 v870 L870 X870 ⟨rfl, e870, rfl⟩
                      rw [List.append_nil] at X870
                      by_cases hb871_0 : (own_fi d0) = (0 : Int32)
                      · refine E.ifY (q := 401) X870 hx (hb hby at_394) (XT.i0_eq_t hb871_0) ?_
                        have mhb871_0 := (own_fi_bd kd0).1 hb871_0
                        refine E.iconst (q := 402) (v := (0 : Int32)) X870 hx (hb hby at_401) rfl ?_
                        exact JF0 T870 X870 e870 _ (own_nb0 (by simp [mhb857_0, mhb859_0, mhb861_0, mhb863_0, mhb865_0, mhb867_0, mhb869_0, mhb871_0]))
                      · refine E.ifN (q := 397) X870 hx (hb hby at_394) (XT.i0_eq_f hb871_0) ?_
                        have mhb871_0 := (own_fi_bd kd0).2 hb871_0
                        refine E.iconst (q := 398) (v := (1 : Int32)) X870 hx (hb hby at_397) rfl ?_
                        refine E.goto (q := 402) X870 hx (hb hby at_398) ?_
                        exact JF0 T870 X870 e870 _ (own_nb1 (by simp [mhb857_0, mhb859_0, mhb861_0, mhb863_0, mhb865_0, mhb867_0, mhb869_0, mhb871_0]))
      · subst hN
        show Ends p e below s _ _ _ T656 (mkF m 206 #[.val (.long pp0), .second, .val (.long pp1), .second, .val (.long pp2), .second, .val (.long pp3), .second, .val (.long pp4), .second, .val (.long pp5), .second, .val (.int bv), .val (.int bw), .val (.int br), .val (.int ct), .val (.int (2 : Int32)), .val (.int (1 : Int32)), .val (.int s0), .val (.int e0_), .val (.int c0), .val (.int d0), .val (.int s1), .val (.int e1), .val (.int cc1), .val (.int d1), .val (.int f0), .val (.int t0), .val (.int w0), .val (.int r0), .val (.int f1), .val (.int t1), .val (.int w1), .val (.int r1), .val (.ref b652), .unset, .unset, .unset, .unset] [])
        refine Ends.newC X656 hx hZ hown (hw _ (List.mem_of_getElem? (i := 8) rfl)) (hw _ (List.mem_of_getElem? (i := 9) rfl)) (hw _ (List.mem_of_getElem? (i := 10) rfl)) e656 (hb hby at_206) (by decide) (by decide) ?_
        intro T925 h925 b925 g925 X925 e925 E925 A925 D925
        have ge_b925 : h0.size ≤ b925 := Nat.le_trans O656.le (Nat.le_of_eq g925.symm)
        have O925 := O656.ext E925
        have F925_numbers : Fld Z h925 b925 "com/example/hourline/hourline/network/EdgeValues" "numbers" "[[I" .null := D925 (Or.inr (hw _ (List.mem_of_getElem? (i := 27) rfl))) (ty := (.array (.array .int))) (by decide)
        have F925_measures : Fld Z h925 b925 "com/example/hourline/hourline/network/EdgeValues" "measures" "[[D" .null := D925 (Or.inr (hw _ (List.mem_of_getElem? (i := 29) rfl))) (ty := (.array (.array .double))) (by decide)
        have F925_size : Fld Z h925 b925 "com/example/hourline/hourline/network/EdgeValues" "size" "I" (.int (0 : Int32)) := D925 (Or.inl (hw _ (List.mem_of_getElem? (i := 31) rfl))) (ty := .int) (by decide)
        refine E.dup (q := 210) X925 hx (hb hby at_209) rfl ?_
        refine E.iconst (q := 211) (v := (3 : Int32)) X925 hx (hb hby at_210) rfl ?_
        refine E.iload (q := 213) X925 hx (hb hby at_211) rfl ?_
        have f926 := V656.ext E925
        refine Ends.callI X925 hx hZ hown (hw _ (List.mem_of_getElem? (i := 11) rfl)) (hw _ (List.mem_of_getElem? (i := 12) rfl)) (hw _ (List.mem_of_getElem? (i := 10) rfl)) (hw _ (List.mem_of_getElem? (i := 13) rfl)) rfl (by decide) (argsL := [(.int (3 : Int32)), (.int (1 : Int32))]) (rest := [(.ref b925)]) e925 (rmC1 l Z a0 hw b925 h925 A925 F925_numbers F925_measures F925_size (own_sta_keep S0 O925.1 own_ns0)) (W := 1) (by decide) (by decide) (by rw [hml]; rfl) (lenOf pd_3 rfl) (Nat.le_of_eq rfl) (hb hby at_213) (by decide) (by decide) rfl ?_
        rintro T927 v927 L927 X927 ⟨rfl, nA, mA, n0, n1, n2, n3, m0, m1, m2, m3, hO927, ⟨ch0, ch1, ch2, ch3, ch4, ch5, ch6, ch7, ch8, ch9⟩, hge927, hFn927, hFm927, hFs927, VnA_927, VmA_927, Vn0_927, Vn1_927, Vn2_927, Vn3_927, Vm0_927, Vm1_927, Vm2_927, Vm3_927⟩
        have e927 : T927.heap = T927.heap := rfl
        have O927 := O925.call hO927 (allS (Or.inr ge_b925) all0)
        have ge_nA : h0.size ≤ nA := Nat.le_trans O925.le hge927
        have ge_mA : h0.size ≤ mA := Nat.le_trans ge_nA (Nat.le_of_lt ch1)
        have ge_n0 : h0.size ≤ n0 := Nat.le_trans ge_mA (Nat.le_of_lt ch2)
        have ge_n1 : h0.size ≤ n1 := Nat.le_trans ge_n0 (Nat.le_of_lt ch3)
        have ge_n2 : h0.size ≤ n2 := Nat.le_trans ge_n1 (Nat.le_of_lt ch4)
        have ge_n3 : h0.size ≤ n3 := Nat.le_trans ge_n2 (Nat.le_of_lt ch5)
        have ge_m0 : h0.size ≤ m0 := Nat.le_trans ge_n3 (Nat.le_of_lt ch6)
        have ge_m1 : h0.size ≤ m1 := Nat.le_trans ge_m0 (Nat.le_of_lt ch7)
        have ge_m2 : h0.size ≤ m2 := Nat.le_trans ge_m1 (Nat.le_of_lt ch8)
        have ge_m3 : h0.size ≤ m3 := Nat.le_trans ge_m2 (Nat.le_of_lt ch9)
        have nb_nA : b652 < nA := Nat.lt_of_lt_of_le f926.lt hge927
        refine E.astore (q := 218) (l' := #[.val (.long pp0), .second, .val (.long pp1), .second, .val (.long pp2), .second, .val (.long pp3), .second, .val (.long pp4), .second, .val (.long pp5), .second, .val (.int bv), .val (.int bw), .val (.int br), .val (.int ct), .val (.int (2 : Int32)), .val (.int (1 : Int32)), .val (.int s0), .val (.int e0_), .val (.int c0), .val (.int d0), .val (.int s1), .val (.int e1), .val (.int cc1), .val (.int d1), .val (.int f0), .val (.int t0), .val (.int w0), .val (.int r0), .val (.int f1), .val (.int t1), .val (.int w1), .val (.int r1), .val (.ref b652), .val (.ref b925), .unset, .unset, .unset]) X927 hx (hb hby at_216) rfl rfl ?_
        refine E.iload (q := 220) X927 hx (hb hby at_218) rfl ?_
        refine E.iconst (q := 221) (v := (1 : Int32)) X927 hx (hb hby at_220) rfl ?_
        refine E.icmpN (q := 224) X927 hx (hb hby at_221) (XT.ii_lt_f (by decide)) ?_
        refine E.aload (q := 226) X927 hx (hb hby at_224) rfl rfl ?_
        refine E.iload (q := 228) X927 hx (hb hby at_226) rfl ?_
        refine E.iload (q := 230) X927 hx (hb hby at_228) rfl ?_
        refine E.iload (q := 232) X927 hx (hb hby at_230) rfl ?_
        refine E.iload (q := 234) X927 hx (hb hby at_232) rfl ?_
        refine E.iload (q := 236) X927 hx (hb hby at_234) rfl ?_
        refine Ends.callS X927 hx hZ hown (hw _ (List.mem_of_getElem? (i := 35) rfl)) (hw _ (List.mem_of_getElem? (i := 36) rfl)) (hw _ (List.mem_of_getElem? (i := 2) rfl)) (hw _ (List.mem_of_getElem? (i := 37) rfl)) (by decide) (argsL := [(.int s0)]) (rest := [(.int r0), (.int w0), (.int t0), (.int f0), (.ref b925)]) e927 (rm6 l Z a0 hw s0 T927.heap) (W := 5) (by decide) (by decide) (by rw [hml]; rfl) (lenOf pd_8 rfl) (Nat.le_of_eq rfl) (hb hby at_236) (by decide) (by decide) rfl ?_
        rintro T928 v928 L928 X928 ⟨rfl, e928, rfl⟩
        rw [List.append_nil] at X928
        refine E.iload (q := 241) X928 hx (hb hby at_239) rfl ?_
        refine Ends.callS X928 hx hZ hown (hw _ (List.mem_of_getElem? (i := 35) rfl)) (hw _ (List.mem_of_getElem? (i := 36) rfl)) (hw _ (List.mem_of_getElem? (i := 2) rfl)) (hw _ (List.mem_of_getElem? (i := 37) rfl)) (by decide) (argsL := [(.int e0_)]) (rest := [(.double (own_m s0)), (.int r0), (.int w0), (.int t0), (.int f0), (.ref b925)]) e928 (rm6 l Z a0 hw e0_ T927.heap) (W := 7) (by decide) (by decide) (by rw [hml]; rfl) (lenOf pd_8 rfl) (Nat.le_of_eq rfl) (hb hby at_241) (by decide) (by decide) rfl ?_
        rintro T929 v929 L929 X929 ⟨rfl, e929, rfl⟩
        rw [List.append_nil] at X929
        have f930 := A925.keep hO927.1
        refine Ends.callV X929 hx hZ hown (hw _ (List.mem_of_getElem? (i := 40) rfl)) (hw _ (List.mem_of_getElem? (i := 41) rfl)) (hw _ (List.mem_of_getElem? (i := 43) rfl)) (hw _ (List.mem_of_getElem? (i := 42) rfl)) (hw _ (List.mem_of_getElem? (i := 10) rfl)) (hw _ (List.mem_of_getElem? (i := 44) rfl)) (by decide) (argsL := [(.int f0), (.int t0), (.int w0), (.int r0), (.double (own_m s0)), (.double (own_m e0_))]) (rest := []) e929 f930 (rmA0 l Z a0 hw b925 f0 t0 w0 r0 (own_m s0) (own_m e0_) nA mA n0 n1 n2 n3 m0 m1 [.ref m2, .ref m3] (.int (0 : Int32)) (.int (0 : Int32)) (.int (0 : Int32)) (.int (0 : Int32)) (.int (0 : Int32)) (.int (0 : Int32)) (.int (0 : Int32)) (.int (0 : Int32)) (.int (0 : Int32)) (.int (0 : Int32)) (.int (0 : Int32)) (.int (0 : Int32)) (.double (0 : UInt64)) (.double (0 : UInt64)) (.double (0 : UInt64)) (.double (0 : UInt64)) (.double (0 : UInt64)) (.double (0 : UInt64)) .null .null .null .null .null .null T927.heap ⟨ch0, ch1, ch2, ch3, ch4, ch5, ch6, ch7⟩ f930 hFn927 hFm927 VnA_927 VmA_927 hFs927 Vn0_927 Vn1_927 Vn2_927 Vn3_927 Vm0_927 Vm1_927) (W := 0) (by decide) (by decide) (by rw [hml]; rfl) (lenOf pd_9 rfl) (Nat.le_of_eq rfl) (hb hby at_244) (by decide) (by decide) rfl ?_
        rintro T931 v931 L931 X931 ⟨⟨z931, rfl⟩, hO931, hFs931, hFn931, hFm931, hn0931, hn1931, hn2931, hn3931, hm0931, hm1931⟩
        have e931 : T931.heap = T931.heap := rfl
        have O931 := O927.call hO931 (allS (Or.inr ge_b925) (allS (Or.inr ge_n0) (allS (Or.inr ge_n1) (allS (Or.inr ge_n2) (allS (Or.inr ge_n3) (allS (Or.inr ge_m0) (allS (Or.inr ge_m1) all0)))))))
        refine E.pop (q := 248) X931 hx (hb hby at_247) rfl ?_
        refine E.iload (q := 250) X931 hx (hb hby at_248) rfl ?_
        refine E.ifN (q := 253) X931 hx (hb hby at_250) (XT.i0_eq_f (by decide)) ?_
        refine E.aload (q := 255) X931 hx (hb hby at_253) rfl rfl ?_
        refine E.iconst (q := 256) (v := (0 : Int32)) X931 hx (hb hby at_255) rfl ?_
        refine E.iload (q := 258) X931 hx (hb hby at_256) rfl ?_
        refine Ends.callS X931 hx hZ hown (hw _ (List.mem_of_getElem? (i := 35) rfl)) (hw _ (List.mem_of_getElem? (i := 36) rfl)) (hw _ (List.mem_of_getElem? (i := 2) rfl)) (hw _ (List.mem_of_getElem? (i := 37) rfl)) (by decide) (argsL := [(.int c0)]) (rest := [(.int (0 : Int32)), (.ref b925)]) e931 (rm6 l Z a0 hw c0 T931.heap) (W := 2) (by decide) (by decide) (by rw [hml]; rfl) (lenOf pd_8 rfl) (Nat.le_of_eq rfl) (hb hby at_258) (by decide) (by decide) rfl ?_
        rintro T932 v932 L932 X932 ⟨rfl, e932, rfl⟩
        rw [List.append_nil] at X932
        refine E.iload (q := 263) X932 hx (hb hby at_261) rfl ?_
        refine Ends.callS X932 hx hZ hown (hw _ (List.mem_of_getElem? (i := 35) rfl)) (hw _ (List.mem_of_getElem? (i := 36) rfl)) (hw _ (List.mem_of_getElem? (i := 2) rfl)) (hw _ (List.mem_of_getElem? (i := 37) rfl)) (by decide) (argsL := [(.int d0)]) (rest := [(.double (own_m c0)), (.int (0 : Int32)), (.ref b925)]) e932 (rm6 l Z a0 hw d0 T931.heap) (W := 4) (by decide) (by decide) (by rw [hml]; rfl) (lenOf pd_8 rfl) (Nat.le_of_eq rfl) (hb hby at_263) (by decide) (by decide) rfl ?_
        rintro T933 v933 L933 X933 ⟨rfl, e933, rfl⟩
        rw [List.append_nil] at X933
        have f934 := VmA_927.keep hO931.1 (ninS (Ne.symm (Nat.ne_of_lt (Nat.lt_trans ch0 ch1))) (ninS (Nat.ne_of_lt ch2) (ninS (Nat.ne_of_lt (Nat.lt_trans ch2 ch3)) (ninS (Nat.ne_of_lt (Nat.lt_trans ch2 (Nat.lt_trans ch3 ch4))) (ninS (Nat.ne_of_lt (Nat.lt_trans ch2 (Nat.lt_trans ch3 (Nat.lt_trans ch4 ch5)))) (ninS (Nat.ne_of_lt (Nat.lt_trans ch2 (Nat.lt_trans ch3 (Nat.lt_trans ch4 (Nat.lt_trans ch5 ch6))))) (ninS (Nat.ne_of_lt (Nat.lt_trans ch2 (Nat.lt_trans ch3 (Nat.lt_trans ch4 (Nat.lt_trans ch5 (Nat.lt_trans ch6 ch7)))))) nin0)))))))
        have f935 := Vm2_927.keep hO931.1 (ninS (Ne.symm (Nat.ne_of_lt (Nat.lt_trans ch0 (Nat.lt_trans ch1 (Nat.lt_trans ch2 (Nat.lt_trans ch3 (Nat.lt_trans ch4 (Nat.lt_trans ch5 (Nat.lt_trans ch6 (Nat.lt_trans ch7 ch8)))))))))) (ninS (Ne.symm (Nat.ne_of_lt (Nat.lt_trans ch3 (Nat.lt_trans ch4 (Nat.lt_trans ch5 (Nat.lt_trans ch6 (Nat.lt_trans ch7 ch8))))))) (ninS (Ne.symm (Nat.ne_of_lt (Nat.lt_trans ch4 (Nat.lt_trans ch5 (Nat.lt_trans ch6 (Nat.lt_trans ch7 ch8)))))) (ninS (Ne.symm (Nat.ne_of_lt (Nat.lt_trans ch5 (Nat.lt_trans ch6 (Nat.lt_trans ch7 ch8))))) (ninS (Ne.symm (Nat.ne_of_lt (Nat.lt_trans ch6 (Nat.lt_trans ch7 ch8)))) (ninS (Ne.symm (Nat.ne_of_lt (Nat.lt_trans ch7 ch8))) (ninS (Ne.symm (Nat.ne_of_lt ch8)) nin0)))))))
        have f936 := Vm3_927.keep hO931.1 (ninS (Ne.symm (Nat.ne_of_lt (Nat.lt_trans ch0 (Nat.lt_trans ch1 (Nat.lt_trans ch2 (Nat.lt_trans ch3 (Nat.lt_trans ch4 (Nat.lt_trans ch5 (Nat.lt_trans ch6 (Nat.lt_trans ch7 (Nat.lt_trans ch8 ch9))))))))))) (ninS (Ne.symm (Nat.ne_of_lt (Nat.lt_trans ch3 (Nat.lt_trans ch4 (Nat.lt_trans ch5 (Nat.lt_trans ch6 (Nat.lt_trans ch7 (Nat.lt_trans ch8 ch9)))))))) (ninS (Ne.symm (Nat.ne_of_lt (Nat.lt_trans ch4 (Nat.lt_trans ch5 (Nat.lt_trans ch6 (Nat.lt_trans ch7 (Nat.lt_trans ch8 ch9))))))) (ninS (Ne.symm (Nat.ne_of_lt (Nat.lt_trans ch5 (Nat.lt_trans ch6 (Nat.lt_trans ch7 (Nat.lt_trans ch8 ch9)))))) (ninS (Ne.symm (Nat.ne_of_lt (Nat.lt_trans ch6 (Nat.lt_trans ch7 (Nat.lt_trans ch8 ch9))))) (ninS (Ne.symm (Nat.ne_of_lt (Nat.lt_trans ch7 (Nat.lt_trans ch8 ch9)))) (ninS (Ne.symm (Nat.ne_of_lt (Nat.lt_trans ch8 ch9))) nin0)))))))
        have f937 := f930.keep hO931.1
        refine Ends.callV X933 hx hZ hown (hw _ (List.mem_of_getElem? (i := 67) rfl)) (hw _ (List.mem_of_getElem? (i := 68) rfl)) (hw _ (List.mem_of_getElem? (i := 70) rfl)) (hw _ (List.mem_of_getElem? (i := 69) rfl)) (hw _ (List.mem_of_getElem? (i := 10) rfl)) (hw _ (List.mem_of_getElem? (i := 71) rfl)) (by decide) (argsL := [(.int (0 : Int32)), (.double (own_m c0)), (.double (own_m d0))]) (rest := []) e933 f937 (rmR0 l Z a0 hw b925 (own_m c0) (own_m d0) mA m0 m1 m2 m3 (.double (0 : UInt64)) (.double (0 : UInt64)) (.double (0 : UInt64)) (.double (0 : UInt64)) (.double (0 : UInt64)) (.double (0 : UInt64)) T931.heap ⟨(Nat.lt_trans ch0 ch1), (Nat.lt_trans ch2 (Nat.lt_trans ch3 (Nat.lt_trans ch4 (Nat.lt_trans ch5 ch6)))), ch7, ch8, ch9⟩ hFm931 f934 f935 f936) (W := 0) (by decide) (by decide) (by rw [hml]; rfl) (lenOf pd_10 rfl) (Nat.le_of_eq rfl) (hb hby at_266) (by decide) (by decide) rfl ?_
        rintro T938 v938 L938 X938 ⟨rfl, hO938, hm2938, hm3938⟩
        have e938 : T938.heap = T938.heap := rfl
        have O938 := O931.call hO938 (allS (Or.inr ge_m2) (allS (Or.inr ge_m3) all0))
        refine E.iload (q := 271) X938 hx (hb hby at_269) rfl ?_
        refine E.iconst (q := 272) (v := (2 : Int32)) X938 hx (hb hby at_271) rfl ?_
        refine E.icmpN (q := 275) X938 hx (hb hby at_272) (XT.ii_lt_f (by decide)) ?_
        refine E.aload (q := 277) X938 hx (hb hby at_275) rfl rfl ?_
        refine E.iload (q := 279) X938 hx (hb hby at_277) rfl ?_
        refine E.iload (q := 281) X938 hx (hb hby at_279) rfl ?_
        refine E.iload (q := 283) X938 hx (hb hby at_281) rfl ?_
        refine E.iload (q := 285) X938 hx (hb hby at_283) rfl ?_
        refine E.iload (q := 287) X938 hx (hb hby at_285) rfl ?_
        refine Ends.callS X938 hx hZ hown (hw _ (List.mem_of_getElem? (i := 35) rfl)) (hw _ (List.mem_of_getElem? (i := 36) rfl)) (hw _ (List.mem_of_getElem? (i := 2) rfl)) (hw _ (List.mem_of_getElem? (i := 37) rfl)) (by decide) (argsL := [(.int s1)]) (rest := [(.int r1), (.int w1), (.int t1), (.int f1), (.ref b925)]) e938 (rm6 l Z a0 hw s1 T938.heap) (W := 5) (by decide) (by decide) (by rw [hml]; rfl) (lenOf pd_8 rfl) (Nat.le_of_eq rfl) (hb hby at_287) (by decide) (by decide) rfl ?_
        rintro T939 v939 L939 X939 ⟨rfl, e939, rfl⟩
        rw [List.append_nil] at X939
        refine E.iload (q := 292) X939 hx (hb hby at_290) rfl ?_
        refine Ends.callS X939 hx hZ hown (hw _ (List.mem_of_getElem? (i := 35) rfl)) (hw _ (List.mem_of_getElem? (i := 36) rfl)) (hw _ (List.mem_of_getElem? (i := 2) rfl)) (hw _ (List.mem_of_getElem? (i := 37) rfl)) (by decide) (argsL := [(.int e1)]) (rest := [(.double (own_m s1)), (.int r1), (.int w1), (.int t1), (.int f1), (.ref b925)]) e939 (rm6 l Z a0 hw e1 T938.heap) (W := 7) (by decide) (by decide) (by rw [hml]; rfl) (lenOf pd_8 rfl) (Nat.le_of_eq rfl) (hb hby at_292) (by decide) (by decide) rfl ?_
        rintro T940 v940 L940 X940 ⟨rfl, e940, rfl⟩
        rw [List.append_nil] at X940
        have f941 := f937.keep hO938.1
        have f942 := hFn931.keep hO938.1 (ninS (Nat.ne_of_lt (Nat.lt_trans ch0 (Nat.lt_trans ch1 (Nat.lt_trans ch2 (Nat.lt_trans ch3 (Nat.lt_trans ch4 (Nat.lt_trans ch5 (Nat.lt_trans ch6 (Nat.lt_trans ch7 ch8))))))))) (ninS (Nat.ne_of_lt (Nat.lt_trans ch0 (Nat.lt_trans ch1 (Nat.lt_trans ch2 (Nat.lt_trans ch3 (Nat.lt_trans ch4 (Nat.lt_trans ch5 (Nat.lt_trans ch6 (Nat.lt_trans ch7 (Nat.lt_trans ch8 ch9)))))))))) nin0))
        have f943 := hFm931.keep hO938.1 (ninS (Nat.ne_of_lt (Nat.lt_trans ch0 (Nat.lt_trans ch1 (Nat.lt_trans ch2 (Nat.lt_trans ch3 (Nat.lt_trans ch4 (Nat.lt_trans ch5 (Nat.lt_trans ch6 (Nat.lt_trans ch7 ch8))))))))) (ninS (Nat.ne_of_lt (Nat.lt_trans ch0 (Nat.lt_trans ch1 (Nat.lt_trans ch2 (Nat.lt_trans ch3 (Nat.lt_trans ch4 (Nat.lt_trans ch5 (Nat.lt_trans ch6 (Nat.lt_trans ch7 (Nat.lt_trans ch8 ch9)))))))))) nin0))
        have f944 := VnA_927.keep hO931.1 (ninS (Ne.symm (Nat.ne_of_lt ch0)) (ninS (Nat.ne_of_lt (Nat.lt_trans ch1 ch2)) (ninS (Nat.ne_of_lt (Nat.lt_trans ch1 (Nat.lt_trans ch2 ch3))) (ninS (Nat.ne_of_lt (Nat.lt_trans ch1 (Nat.lt_trans ch2 (Nat.lt_trans ch3 ch4)))) (ninS (Nat.ne_of_lt (Nat.lt_trans ch1 (Nat.lt_trans ch2 (Nat.lt_trans ch3 (Nat.lt_trans ch4 ch5))))) (ninS (Nat.ne_of_lt (Nat.lt_trans ch1 (Nat.lt_trans ch2 (Nat.lt_trans ch3 (Nat.lt_trans ch4 (Nat.lt_trans ch5 ch6)))))) (ninS (Nat.ne_of_lt (Nat.lt_trans ch1 (Nat.lt_trans ch2 (Nat.lt_trans ch3 (Nat.lt_trans ch4 (Nat.lt_trans ch5 (Nat.lt_trans ch6 ch7))))))) nin0)))))))
        have f945 := f944.keep hO938.1 (ninS (Nat.ne_of_lt (Nat.lt_trans ch1 (Nat.lt_trans ch2 (Nat.lt_trans ch3 (Nat.lt_trans ch4 (Nat.lt_trans ch5 (Nat.lt_trans ch6 (Nat.lt_trans ch7 ch8)))))))) (ninS (Nat.ne_of_lt (Nat.lt_trans ch1 (Nat.lt_trans ch2 (Nat.lt_trans ch3 (Nat.lt_trans ch4 (Nat.lt_trans ch5 (Nat.lt_trans ch6 (Nat.lt_trans ch7 (Nat.lt_trans ch8 ch9))))))))) nin0))
        have f946 := f934.keep hO938.1 (ninS (Nat.ne_of_lt (Nat.lt_trans ch2 (Nat.lt_trans ch3 (Nat.lt_trans ch4 (Nat.lt_trans ch5 (Nat.lt_trans ch6 (Nat.lt_trans ch7 ch8))))))) (ninS (Nat.ne_of_lt (Nat.lt_trans ch2 (Nat.lt_trans ch3 (Nat.lt_trans ch4 (Nat.lt_trans ch5 (Nat.lt_trans ch6 (Nat.lt_trans ch7 (Nat.lt_trans ch8 ch9)))))))) nin0))
        have f947 := hFs931.keep hO938.1 (ninS (Nat.ne_of_lt (Nat.lt_trans ch0 (Nat.lt_trans ch1 (Nat.lt_trans ch2 (Nat.lt_trans ch3 (Nat.lt_trans ch4 (Nat.lt_trans ch5 (Nat.lt_trans ch6 (Nat.lt_trans ch7 ch8))))))))) (ninS (Nat.ne_of_lt (Nat.lt_trans ch0 (Nat.lt_trans ch1 (Nat.lt_trans ch2 (Nat.lt_trans ch3 (Nat.lt_trans ch4 (Nat.lt_trans ch5 (Nat.lt_trans ch6 (Nat.lt_trans ch7 (Nat.lt_trans ch8 ch9)))))))))) nin0))
        have f948 := hn0931.keep hO938.1 (ninS (Nat.ne_of_lt (Nat.lt_trans ch3 (Nat.lt_trans ch4 (Nat.lt_trans ch5 (Nat.lt_trans ch6 (Nat.lt_trans ch7 ch8)))))) (ninS (Nat.ne_of_lt (Nat.lt_trans ch3 (Nat.lt_trans ch4 (Nat.lt_trans ch5 (Nat.lt_trans ch6 (Nat.lt_trans ch7 (Nat.lt_trans ch8 ch9))))))) nin0))
        have f949 := hn1931.keep hO938.1 (ninS (Nat.ne_of_lt (Nat.lt_trans ch4 (Nat.lt_trans ch5 (Nat.lt_trans ch6 (Nat.lt_trans ch7 ch8))))) (ninS (Nat.ne_of_lt (Nat.lt_trans ch4 (Nat.lt_trans ch5 (Nat.lt_trans ch6 (Nat.lt_trans ch7 (Nat.lt_trans ch8 ch9)))))) nin0))
        have f950 := hn2931.keep hO938.1 (ninS (Nat.ne_of_lt (Nat.lt_trans ch5 (Nat.lt_trans ch6 (Nat.lt_trans ch7 ch8)))) (ninS (Nat.ne_of_lt (Nat.lt_trans ch5 (Nat.lt_trans ch6 (Nat.lt_trans ch7 (Nat.lt_trans ch8 ch9))))) nin0))
        have f951 := hn3931.keep hO938.1 (ninS (Nat.ne_of_lt (Nat.lt_trans ch6 (Nat.lt_trans ch7 ch8))) (ninS (Nat.ne_of_lt (Nat.lt_trans ch6 (Nat.lt_trans ch7 (Nat.lt_trans ch8 ch9)))) nin0))
        have f952 := hm0931.keep hO938.1 (ninS (Nat.ne_of_lt (Nat.lt_trans ch7 ch8)) (ninS (Nat.ne_of_lt (Nat.lt_trans ch7 (Nat.lt_trans ch8 ch9))) nin0))
        have f953 := hm1931.keep hO938.1 (ninS (Nat.ne_of_lt ch8) (ninS (Nat.ne_of_lt (Nat.lt_trans ch8 ch9)) nin0))
        refine Ends.callV X940 hx hZ hown (hw _ (List.mem_of_getElem? (i := 40) rfl)) (hw _ (List.mem_of_getElem? (i := 41) rfl)) (hw _ (List.mem_of_getElem? (i := 43) rfl)) (hw _ (List.mem_of_getElem? (i := 42) rfl)) (hw _ (List.mem_of_getElem? (i := 10) rfl)) (hw _ (List.mem_of_getElem? (i := 44) rfl)) (by decide) (argsL := [(.int f1), (.int t1), (.int w1), (.int r1), (.double (own_m s1)), (.double (own_m e1))]) (rest := []) e940 f941 (rmA1 l Z a0 hw b925 f1 t1 w1 r1 (own_m s1) (own_m e1) nA mA n0 n1 n2 n3 m0 m1 [.ref m2, .ref m3] (.int f0) (.int (0 : Int32)) (.int (0 : Int32)) (.int t0) (.int (0 : Int32)) (.int (0 : Int32)) (.int w0) (.int (0 : Int32)) (.int (0 : Int32)) (.int r0) (.int (0 : Int32)) (.int (0 : Int32)) (.double (own_m s0)) (.double (0 : UInt64)) (.double (0 : UInt64)) (.double (own_m e0_)) (.double (0 : UInt64)) (.double (0 : UInt64)) .null .null .null .null .null .null T938.heap ⟨ch0, ch1, ch2, ch3, ch4, ch5, ch6, ch7⟩ f941 f942 f943 f945 f946 f947 f948 f949 f950 f951 f952 f953) (W := 0) (by decide) (by decide) (by rw [hml]; rfl) (lenOf pd_9 rfl) (Nat.le_of_eq rfl) (hb hby at_295) (by decide) (by decide) rfl ?_
        rintro T954 v954 L954 X954 ⟨⟨z954, rfl⟩, hO954, hFs954, hFn954, hFm954, hn0954, hn1954, hn2954, hn3954, hm0954, hm1954⟩
        have e954 : T954.heap = T954.heap := rfl
        have O954 := O938.call hO954 (allS (Or.inr ge_b925) (allS (Or.inr ge_n0) (allS (Or.inr ge_n1) (allS (Or.inr ge_n2) (allS (Or.inr ge_n3) (allS (Or.inr ge_m0) (allS (Or.inr ge_m1) all0)))))))
        refine E.pop (q := 299) X954 hx (hb hby at_298) rfl ?_
        refine E.iload (q := 301) X954 hx (hb hby at_299) rfl ?_
        refine E.ifN (q := 304) X954 hx (hb hby at_301) (XT.i0_eq_f (by decide)) ?_
        refine E.aload (q := 306) X954 hx (hb hby at_304) rfl rfl ?_
        refine E.iconst (q := 307) (v := (1 : Int32)) X954 hx (hb hby at_306) rfl ?_
        refine E.iload (q := 309) X954 hx (hb hby at_307) rfl ?_
        refine Ends.callS X954 hx hZ hown (hw _ (List.mem_of_getElem? (i := 35) rfl)) (hw _ (List.mem_of_getElem? (i := 36) rfl)) (hw _ (List.mem_of_getElem? (i := 2) rfl)) (hw _ (List.mem_of_getElem? (i := 37) rfl)) (by decide) (argsL := [(.int cc1)]) (rest := [(.int (1 : Int32)), (.ref b925)]) e954 (rm6 l Z a0 hw cc1 T954.heap) (W := 2) (by decide) (by decide) (by rw [hml]; rfl) (lenOf pd_8 rfl) (Nat.le_of_eq rfl) (hb hby at_309) (by decide) (by decide) rfl ?_
        rintro T955 v955 L955 X955 ⟨rfl, e955, rfl⟩
        rw [List.append_nil] at X955
        refine E.iload (q := 314) X955 hx (hb hby at_312) rfl ?_
        refine Ends.callS X955 hx hZ hown (hw _ (List.mem_of_getElem? (i := 35) rfl)) (hw _ (List.mem_of_getElem? (i := 36) rfl)) (hw _ (List.mem_of_getElem? (i := 2) rfl)) (hw _ (List.mem_of_getElem? (i := 37) rfl)) (by decide) (argsL := [(.int d1)]) (rest := [(.double (own_m cc1)), (.int (1 : Int32)), (.ref b925)]) e955 (rm6 l Z a0 hw d1 T954.heap) (W := 4) (by decide) (by decide) (by rw [hml]; rfl) (lenOf pd_8 rfl) (Nat.le_of_eq rfl) (hb hby at_314) (by decide) (by decide) rfl ?_
        rintro T956 v956 L956 X956 ⟨rfl, e956, rfl⟩
        rw [List.append_nil] at X956
        have f957 := f946.keep hO954.1 (ninS (Ne.symm (Nat.ne_of_lt (Nat.lt_trans ch0 ch1))) (ninS (Nat.ne_of_lt ch2) (ninS (Nat.ne_of_lt (Nat.lt_trans ch2 ch3)) (ninS (Nat.ne_of_lt (Nat.lt_trans ch2 (Nat.lt_trans ch3 ch4))) (ninS (Nat.ne_of_lt (Nat.lt_trans ch2 (Nat.lt_trans ch3 (Nat.lt_trans ch4 ch5)))) (ninS (Nat.ne_of_lt (Nat.lt_trans ch2 (Nat.lt_trans ch3 (Nat.lt_trans ch4 (Nat.lt_trans ch5 ch6))))) (ninS (Nat.ne_of_lt (Nat.lt_trans ch2 (Nat.lt_trans ch3 (Nat.lt_trans ch4 (Nat.lt_trans ch5 (Nat.lt_trans ch6 ch7)))))) nin0)))))))
        have f958 := hm2938.keep hO954.1 (ninS (Ne.symm (Nat.ne_of_lt (Nat.lt_trans ch0 (Nat.lt_trans ch1 (Nat.lt_trans ch2 (Nat.lt_trans ch3 (Nat.lt_trans ch4 (Nat.lt_trans ch5 (Nat.lt_trans ch6 (Nat.lt_trans ch7 ch8)))))))))) (ninS (Ne.symm (Nat.ne_of_lt (Nat.lt_trans ch3 (Nat.lt_trans ch4 (Nat.lt_trans ch5 (Nat.lt_trans ch6 (Nat.lt_trans ch7 ch8))))))) (ninS (Ne.symm (Nat.ne_of_lt (Nat.lt_trans ch4 (Nat.lt_trans ch5 (Nat.lt_trans ch6 (Nat.lt_trans ch7 ch8)))))) (ninS (Ne.symm (Nat.ne_of_lt (Nat.lt_trans ch5 (Nat.lt_trans ch6 (Nat.lt_trans ch7 ch8))))) (ninS (Ne.symm (Nat.ne_of_lt (Nat.lt_trans ch6 (Nat.lt_trans ch7 ch8)))) (ninS (Ne.symm (Nat.ne_of_lt (Nat.lt_trans ch7 ch8))) (ninS (Ne.symm (Nat.ne_of_lt ch8)) nin0)))))))
        have f959 := hm3938.keep hO954.1 (ninS (Ne.symm (Nat.ne_of_lt (Nat.lt_trans ch0 (Nat.lt_trans ch1 (Nat.lt_trans ch2 (Nat.lt_trans ch3 (Nat.lt_trans ch4 (Nat.lt_trans ch5 (Nat.lt_trans ch6 (Nat.lt_trans ch7 (Nat.lt_trans ch8 ch9))))))))))) (ninS (Ne.symm (Nat.ne_of_lt (Nat.lt_trans ch3 (Nat.lt_trans ch4 (Nat.lt_trans ch5 (Nat.lt_trans ch6 (Nat.lt_trans ch7 (Nat.lt_trans ch8 ch9)))))))) (ninS (Ne.symm (Nat.ne_of_lt (Nat.lt_trans ch4 (Nat.lt_trans ch5 (Nat.lt_trans ch6 (Nat.lt_trans ch7 (Nat.lt_trans ch8 ch9))))))) (ninS (Ne.symm (Nat.ne_of_lt (Nat.lt_trans ch5 (Nat.lt_trans ch6 (Nat.lt_trans ch7 (Nat.lt_trans ch8 ch9)))))) (ninS (Ne.symm (Nat.ne_of_lt (Nat.lt_trans ch6 (Nat.lt_trans ch7 (Nat.lt_trans ch8 ch9))))) (ninS (Ne.symm (Nat.ne_of_lt (Nat.lt_trans ch7 (Nat.lt_trans ch8 ch9)))) (ninS (Ne.symm (Nat.ne_of_lt (Nat.lt_trans ch8 ch9))) nin0)))))))
        have f960 := f941.keep hO954.1
        refine Ends.callV X956 hx hZ hown (hw _ (List.mem_of_getElem? (i := 67) rfl)) (hw _ (List.mem_of_getElem? (i := 68) rfl)) (hw _ (List.mem_of_getElem? (i := 70) rfl)) (hw _ (List.mem_of_getElem? (i := 69) rfl)) (hw _ (List.mem_of_getElem? (i := 10) rfl)) (hw _ (List.mem_of_getElem? (i := 71) rfl)) (by decide) (argsL := [(.int (1 : Int32)), (.double (own_m cc1)), (.double (own_m d1))]) (rest := []) e956 f960 (rmR1 l Z a0 hw b925 (own_m cc1) (own_m d1) mA m0 m1 m2 m3 (.double (own_m c0)) (.double (0 : UInt64)) (.double (0 : UInt64)) (.double (own_m d0)) (.double (0 : UInt64)) (.double (0 : UInt64)) T954.heap ⟨(Nat.lt_trans ch0 ch1), (Nat.lt_trans ch2 (Nat.lt_trans ch3 (Nat.lt_trans ch4 (Nat.lt_trans ch5 ch6)))), ch7, ch8, ch9⟩ hFm954 f957 f958 f959) (W := 0) (by decide) (by decide) (by rw [hml]; rfl) (lenOf pd_10 rfl) (Nat.le_of_eq rfl) (hb hby at_317) (by decide) (by decide) rfl ?_
        rintro T961 v961 L961 X961 ⟨rfl, hO961, hm2961, hm3961⟩
        have e961 : T961.heap = T961.heap := rfl
        have O961 := O954.call hO961 (allS (Or.inr ge_m2) (allS (Or.inr ge_m3) all0))
        refine E.iload (q := 322) X961 hx (hb hby at_320) rfl ?_
        refine E.iload (q := 324) X961 hx (hb hby at_322) rfl ?_
        obtain ⟨lq962, cq962, sq962, Xp962, Op962, hcq962, hsq962⟩ : ∃ (lq : List Loc) (cq sq : Nat), Stand p l e room_1 s m #[(.long pp0), (.long pp1), (.long pp2), (.long pp3), (.long pp4), (.long pp5)] below meth c T961 lq cq sq ∧ Ok h0 T961.heap [] lq ∧ cq = 12 ∧ sq = 39 := ⟨_, _, _, X961, O961, rfl, rfl⟩
        subst hcq962 hsq962
        have JF0 : ∀ (Tf0 : State), Stand p l e room_1 s m #[(.long pp0), (.long pp1), (.long pp2), (.long pp3), (.long pp4), (.long pp5)] below meth c Tf0 lq962 12 39 → Tf0.heap = T961.heap → ∀ F0 : Int32, F0 = own_nb [own_bi f0 bv, own_bi t0 bv, own_bi w0 bw, own_bi r0 br, own_bd (own_m s0), own_bd (own_m e0_), own_bd (own_m c0), own_bd (own_m d0)] → Ends p e below s (fun v h L => v = some (.int 1) ∧ Fr h0.size L) room_1.cells room_1.slots Tf0 (mkF m 402 #[.val (.long pp0), .second, .val (.long pp1), .second, .val (.long pp2), .second, .val (.long pp3), .second, .val (.long pp4), .second, .val (.long pp5), .second, .val (.int bv), .val (.int bw), .val (.int br), .val (.int ct), .val (.int (2 : Int32)), .val (.int (1 : Int32)), .val (.int s0), .val (.int e0_), .val (.int c0), .val (.int d0), .val (.int s1), .val (.int e1), .val (.int cc1), .val (.int d1), .val (.int f0), .val (.int t0), .val (.int w0), .val (.int r0), .val (.int f1), .val (.int t1), .val (.int w1), .val (.int r1), .val (.ref b652), .val (.ref b925), .unset, .unset, .unset] [(.int F0)]) := by
          intro Tf0 Xf0 ef0 F0 hF0
          refine E.istore (q := 404) (l' := #[.val (.long pp0), .second, .val (.long pp1), .second, .val (.long pp2), .second, .val (.long pp3), .second, .val (.long pp4), .second, .val (.long pp5), .second, .val (.int bv), .val (.int bw), .val (.int br), .val (.int ct), .val (.int (2 : Int32)), .val (.int (1 : Int32)), .val (.int s0), .val (.int e0_), .val (.int c0), .val (.int d0), .val (.int s1), .val (.int e1), .val (.int cc1), .val (.int d1), .val (.int f0), .val (.int t0), .val (.int w0), .val (.int r0), .val (.int f1), .val (.int t1), .val (.int w1), .val (.int r1), .val (.ref b652), .val (.ref b925), .val (.int F0), .unset, .unset]) Xf0 hx (hb hby at_402) rfl ?_
          refine E.iload (q := 406) Xf0 hx (hb hby at_404) rfl ?_
          refine E.iload (q := 408) Xf0 hx (hb hby at_406) rfl ?_
          obtain ⟨lq979, cq979, sq979, Xp979, Op979, hcq979, hsq979⟩ : ∃ (lq : List Loc) (cq sq : Nat), Stand p l e room_1 s m #[(.long pp0), (.long pp1), (.long pp2), (.long pp3), (.long pp4), (.long pp5)] below meth c Tf0 lq cq sq ∧ Ok h0 T961.heap [] lq ∧ cq = 12 ∧ sq = 39 := ⟨_, _, _, Xf0, Op962, rfl, rfl⟩
          subst hcq979 hsq979
          have JF1 : ∀ (Tf1 : State), Stand p l e room_1 s m #[(.long pp0), (.long pp1), (.long pp2), (.long pp3), (.long pp4), (.long pp5)] below meth c Tf1 lq979 12 39 → Tf1.heap = T961.heap → ∀ F1 : Int32, F1 = own_nb [own_bi f1 bv, own_bi t1 bv, own_bi w1 bw, own_bi r1 br, own_bd (own_m s1), own_bd (own_m e1), own_bd (own_m cc1), own_bd (own_m d1)] → Ends p e below s (fun v h L => v = some (.int 1) ∧ Fr h0.size L) room_1.cells room_1.slots Tf1 (mkF m 486 #[.val (.long pp0), .second, .val (.long pp1), .second, .val (.long pp2), .second, .val (.long pp3), .second, .val (.long pp4), .second, .val (.long pp5), .second, .val (.int bv), .val (.int bw), .val (.int br), .val (.int ct), .val (.int (2 : Int32)), .val (.int (1 : Int32)), .val (.int s0), .val (.int e0_), .val (.int c0), .val (.int d0), .val (.int s1), .val (.int e1), .val (.int cc1), .val (.int d1), .val (.int f0), .val (.int t0), .val (.int w0), .val (.int r0), .val (.int f1), .val (.int t1), .val (.int w1), .val (.int r1), .val (.ref b652), .val (.ref b925), .val (.int F0), .unset, .unset] [(.int F1)]) := by
            intro Tf1 Xf1 ef1 F1 hF1
            refine E.istore (q := 488) (l' := #[.val (.long pp0), .second, .val (.long pp1), .second, .val (.long pp2), .second, .val (.long pp3), .second, .val (.long pp4), .second, .val (.long pp5), .second, .val (.int bv), .val (.int bw), .val (.int br), .val (.int ct), .val (.int (2 : Int32)), .val (.int (1 : Int32)), .val (.int s0), .val (.int e0_), .val (.int c0), .val (.int d0), .val (.int s1), .val (.int e1), .val (.int cc1), .val (.int d1), .val (.int f0), .val (.int t0), .val (.int w0), .val (.int r0), .val (.int f1), .val (.int t1), .val (.int w1), .val (.int r1), .val (.ref b652), .val (.ref b925), .val (.int F0), .val (.int F1), .unset]) Xf1 hx (hb hby at_486) rfl ?_
            refine E.iload (q := 490) Xf1 hx (hb hby at_488) rfl ?_
            refine E.ifY (q := 499) Xf1 hx (hb hby at_490) (XT.i0_ne_t (by decide)) ?_
            refine E.iload (q := 501) Xf1 hx (hb hby at_499) rfl ?_
            by_cases hz0 : F0 = (0 : Int32)
            · refine E.ifN (q := 504) Xf1 hx (hb hby at_501) (XT.i0_ne_f hz0) ?_
              refine E.iconst (q := 505) (v := (0 : Int32)) Xf1 hx (hb hby at_504) rfl ?_
              refine E.istore (q := 507) (l' := #[.val (.long pp0), .second, .val (.long pp1), .second, .val (.long pp2), .second, .val (.long pp3), .second, .val (.long pp4), .second, .val (.long pp5), .second, .val (.int bv), .val (.int bw), .val (.int br), .val (.int ct), .val (.int (2 : Int32)), .val (.int (1 : Int32)), .val (.int s0), .val (.int e0_), .val (.int c0), .val (.int d0), .val (.int s1), .val (.int e1), .val (.int cc1), .val (.int d1), .val (.int f0), .val (.int t0), .val (.int w0), .val (.int r0), .val (.int f1), .val (.int t1), .val (.int w1), .val (.int r1), .val (.ref b652), .val (.ref b925), .val (.int F0), .val (.int F1), .val (.int (0 : Int32))]) Xf1 hx (hb hby at_505) rfl ?_
              refine E.goto (q := 536) Xf1 hx (hb hby at_507) ?_
              refine E.aload (q := 538) Xf1 hx (hb hby at_536) rfl rfl ?_
              refine E.aload (q := 540) Xf1 hx (hb hby at_538) rfl rfl ?_
              have f996 := f960.keep hO961.1
              have f997 := hFn954.keep hO961.1 (ninS (Nat.ne_of_lt (Nat.lt_trans ch0 (Nat.lt_trans ch1 (Nat.lt_trans ch2 (Nat.lt_trans ch3 (Nat.lt_trans ch4 (Nat.lt_trans ch5 (Nat.lt_trans ch6 (Nat.lt_trans ch7 ch8))))))))) (ninS (Nat.ne_of_lt (Nat.lt_trans ch0 (Nat.lt_trans ch1 (Nat.lt_trans ch2 (Nat.lt_trans ch3 (Nat.lt_trans ch4 (Nat.lt_trans ch5 (Nat.lt_trans ch6 (Nat.lt_trans ch7 (Nat.lt_trans ch8 ch9)))))))))) nin0))
              have f998 := hFm954.keep hO961.1 (ninS (Nat.ne_of_lt (Nat.lt_trans ch0 (Nat.lt_trans ch1 (Nat.lt_trans ch2 (Nat.lt_trans ch3 (Nat.lt_trans ch4 (Nat.lt_trans ch5 (Nat.lt_trans ch6 (Nat.lt_trans ch7 ch8))))))))) (ninS (Nat.ne_of_lt (Nat.lt_trans ch0 (Nat.lt_trans ch1 (Nat.lt_trans ch2 (Nat.lt_trans ch3 (Nat.lt_trans ch4 (Nat.lt_trans ch5 (Nat.lt_trans ch6 (Nat.lt_trans ch7 (Nat.lt_trans ch8 ch9)))))))))) nin0))
              have f999 := hFs954.keep hO961.1 (ninS (Nat.ne_of_lt (Nat.lt_trans ch0 (Nat.lt_trans ch1 (Nat.lt_trans ch2 (Nat.lt_trans ch3 (Nat.lt_trans ch4 (Nat.lt_trans ch5 (Nat.lt_trans ch6 (Nat.lt_trans ch7 ch8))))))))) (ninS (Nat.ne_of_lt (Nat.lt_trans ch0 (Nat.lt_trans ch1 (Nat.lt_trans ch2 (Nat.lt_trans ch3 (Nat.lt_trans ch4 (Nat.lt_trans ch5 (Nat.lt_trans ch6 (Nat.lt_trans ch7 (Nat.lt_trans ch8 ch9)))))))))) nin0))
              have f1000 := f926.keep hO927.1 (ninS (Nat.ne_of_lt (Nat.lt_of_lt_of_eq V656.lt g925.symm)) nin0)
              have f1001 := f1000.keep hO931.1 (ninS (Nat.ne_of_lt (Nat.lt_of_lt_of_eq V656.lt g925.symm)) (ninS (Nat.ne_of_lt (Nat.lt_trans nb_nA (Nat.lt_trans ch1 ch2))) (ninS (Nat.ne_of_lt (Nat.lt_trans nb_nA (Nat.lt_trans ch1 (Nat.lt_trans ch2 ch3)))) (ninS (Nat.ne_of_lt (Nat.lt_trans nb_nA (Nat.lt_trans ch1 (Nat.lt_trans ch2 (Nat.lt_trans ch3 ch4))))) (ninS (Nat.ne_of_lt (Nat.lt_trans nb_nA (Nat.lt_trans ch1 (Nat.lt_trans ch2 (Nat.lt_trans ch3 (Nat.lt_trans ch4 ch5)))))) (ninS (Nat.ne_of_lt (Nat.lt_trans nb_nA (Nat.lt_trans ch1 (Nat.lt_trans ch2 (Nat.lt_trans ch3 (Nat.lt_trans ch4 (Nat.lt_trans ch5 ch6))))))) (ninS (Nat.ne_of_lt (Nat.lt_trans nb_nA (Nat.lt_trans ch1 (Nat.lt_trans ch2 (Nat.lt_trans ch3 (Nat.lt_trans ch4 (Nat.lt_trans ch5 (Nat.lt_trans ch6 ch7)))))))) nin0)))))))
              have f1002 := f1001.keep hO938.1 (ninS (Nat.ne_of_lt (Nat.lt_trans nb_nA (Nat.lt_trans ch1 (Nat.lt_trans ch2 (Nat.lt_trans ch3 (Nat.lt_trans ch4 (Nat.lt_trans ch5 (Nat.lt_trans ch6 (Nat.lt_trans ch7 ch8))))))))) (ninS (Nat.ne_of_lt (Nat.lt_trans nb_nA (Nat.lt_trans ch1 (Nat.lt_trans ch2 (Nat.lt_trans ch3 (Nat.lt_trans ch4 (Nat.lt_trans ch5 (Nat.lt_trans ch6 (Nat.lt_trans ch7 (Nat.lt_trans ch8 ch9)))))))))) nin0))
              have f1003 := f1002.keep hO954.1 (ninS (Nat.ne_of_lt (Nat.lt_of_lt_of_eq V656.lt g925.symm)) (ninS (Nat.ne_of_lt (Nat.lt_trans nb_nA (Nat.lt_trans ch1 ch2))) (ninS (Nat.ne_of_lt (Nat.lt_trans nb_nA (Nat.lt_trans ch1 (Nat.lt_trans ch2 ch3)))) (ninS (Nat.ne_of_lt (Nat.lt_trans nb_nA (Nat.lt_trans ch1 (Nat.lt_trans ch2 (Nat.lt_trans ch3 ch4))))) (ninS (Nat.ne_of_lt (Nat.lt_trans nb_nA (Nat.lt_trans ch1 (Nat.lt_trans ch2 (Nat.lt_trans ch3 (Nat.lt_trans ch4 ch5)))))) (ninS (Nat.ne_of_lt (Nat.lt_trans nb_nA (Nat.lt_trans ch1 (Nat.lt_trans ch2 (Nat.lt_trans ch3 (Nat.lt_trans ch4 (Nat.lt_trans ch5 ch6))))))) (ninS (Nat.ne_of_lt (Nat.lt_trans nb_nA (Nat.lt_trans ch1 (Nat.lt_trans ch2 (Nat.lt_trans ch3 (Nat.lt_trans ch4 (Nat.lt_trans ch5 (Nat.lt_trans ch6 ch7)))))))) nin0)))))))
              have f1004 := f1003.keep hO961.1 (ninS (Nat.ne_of_lt (Nat.lt_trans nb_nA (Nat.lt_trans ch1 (Nat.lt_trans ch2 (Nat.lt_trans ch3 (Nat.lt_trans ch4 (Nat.lt_trans ch5 (Nat.lt_trans ch6 (Nat.lt_trans ch7 ch8))))))))) (ninS (Nat.ne_of_lt (Nat.lt_trans nb_nA (Nat.lt_trans ch1 (Nat.lt_trans ch2 (Nat.lt_trans ch3 (Nat.lt_trans ch4 (Nat.lt_trans ch5 (Nat.lt_trans ch6 (Nat.lt_trans ch7 (Nat.lt_trans ch8 ch9)))))))))) nin0))
              have f1005 := f945.keep hO954.1 (ninS (Ne.symm (Nat.ne_of_lt ch0)) (ninS (Nat.ne_of_lt (Nat.lt_trans ch1 ch2)) (ninS (Nat.ne_of_lt (Nat.lt_trans ch1 (Nat.lt_trans ch2 ch3))) (ninS (Nat.ne_of_lt (Nat.lt_trans ch1 (Nat.lt_trans ch2 (Nat.lt_trans ch3 ch4)))) (ninS (Nat.ne_of_lt (Nat.lt_trans ch1 (Nat.lt_trans ch2 (Nat.lt_trans ch3 (Nat.lt_trans ch4 ch5))))) (ninS (Nat.ne_of_lt (Nat.lt_trans ch1 (Nat.lt_trans ch2 (Nat.lt_trans ch3 (Nat.lt_trans ch4 (Nat.lt_trans ch5 ch6)))))) (ninS (Nat.ne_of_lt (Nat.lt_trans ch1 (Nat.lt_trans ch2 (Nat.lt_trans ch3 (Nat.lt_trans ch4 (Nat.lt_trans ch5 (Nat.lt_trans ch6 ch7))))))) nin0)))))))
              have f1006 := f1005.keep hO961.1 (ninS (Nat.ne_of_lt (Nat.lt_trans ch1 (Nat.lt_trans ch2 (Nat.lt_trans ch3 (Nat.lt_trans ch4 (Nat.lt_trans ch5 (Nat.lt_trans ch6 (Nat.lt_trans ch7 ch8)))))))) (ninS (Nat.ne_of_lt (Nat.lt_trans ch1 (Nat.lt_trans ch2 (Nat.lt_trans ch3 (Nat.lt_trans ch4 (Nat.lt_trans ch5 (Nat.lt_trans ch6 (Nat.lt_trans ch7 (Nat.lt_trans ch8 ch9))))))))) nin0))
              have f1007 := f957.keep hO961.1 (ninS (Nat.ne_of_lt (Nat.lt_trans ch2 (Nat.lt_trans ch3 (Nat.lt_trans ch4 (Nat.lt_trans ch5 (Nat.lt_trans ch6 (Nat.lt_trans ch7 ch8))))))) (ninS (Nat.ne_of_lt (Nat.lt_trans ch2 (Nat.lt_trans ch3 (Nat.lt_trans ch4 (Nat.lt_trans ch5 (Nat.lt_trans ch6 (Nat.lt_trans ch7 (Nat.lt_trans ch8 ch9)))))))) nin0))
              have f1008 := hn0954.keep hO961.1 (ninS (Nat.ne_of_lt (Nat.lt_trans ch3 (Nat.lt_trans ch4 (Nat.lt_trans ch5 (Nat.lt_trans ch6 (Nat.lt_trans ch7 ch8)))))) (ninS (Nat.ne_of_lt (Nat.lt_trans ch3 (Nat.lt_trans ch4 (Nat.lt_trans ch5 (Nat.lt_trans ch6 (Nat.lt_trans ch7 (Nat.lt_trans ch8 ch9))))))) nin0))
              have f1009 := hn1954.keep hO961.1 (ninS (Nat.ne_of_lt (Nat.lt_trans ch4 (Nat.lt_trans ch5 (Nat.lt_trans ch6 (Nat.lt_trans ch7 ch8))))) (ninS (Nat.ne_of_lt (Nat.lt_trans ch4 (Nat.lt_trans ch5 (Nat.lt_trans ch6 (Nat.lt_trans ch7 (Nat.lt_trans ch8 ch9)))))) nin0))
              have f1010 := hn2954.keep hO961.1 (ninS (Nat.ne_of_lt (Nat.lt_trans ch5 (Nat.lt_trans ch6 (Nat.lt_trans ch7 ch8)))) (ninS (Nat.ne_of_lt (Nat.lt_trans ch5 (Nat.lt_trans ch6 (Nat.lt_trans ch7 (Nat.lt_trans ch8 ch9))))) nin0))
              have f1011 := hn3954.keep hO961.1 (ninS (Nat.ne_of_lt (Nat.lt_trans ch6 (Nat.lt_trans ch7 ch8))) (ninS (Nat.ne_of_lt (Nat.lt_trans ch6 (Nat.lt_trans ch7 (Nat.lt_trans ch8 ch9)))) nin0))
              have f1012 := hm0954.keep hO961.1 (ninS (Nat.ne_of_lt (Nat.lt_trans ch7 ch8)) (ninS (Nat.ne_of_lt (Nat.lt_trans ch7 (Nat.lt_trans ch8 ch9))) nin0))
              have f1013 := hm1954.keep hO961.1 (ninS (Nat.ne_of_lt ch8) (ninS (Nat.ne_of_lt (Nat.lt_trans ch8 ch9)) nin0))
              refine Ends.callV Xf1 hx hZ hown (hw _ (List.mem_of_getElem? (i := 54) rfl)) (hw _ (List.mem_of_getElem? (i := 55) rfl)) (hw _ (List.mem_of_getElem? (i := 57) rfl)) (hw _ (List.mem_of_getElem? (i := 56) rfl)) (hw _ (List.mem_of_getElem? (i := 10) rfl)) (hw _ (List.mem_of_getElem? (i := 58) rfl)) (by decide) (argsL := [(.ref b652)]) (rest := []) ef1 f996 (rmF1 l Z a0 hw b925 b652 (2 : Int32) nA mA n0 n1 n2 n3 m0 m1 m2 m3 f0 f1 (0 : Int32) t0 t1 (0 : Int32) w0 w1 (0 : Int32) r0 r1 (0 : Int32) (own_m s0) (own_m s1) (0 : UInt64) (own_m e0_) (own_m e1) (0 : UInt64) (own_m c0) (own_m cc1) (0 : UInt64) (own_m d0) (own_m d1) (0 : UInt64) bv bv bw br (own_bi f0 bv, own_bi f1 bv) (own_bi t0 bv, own_bi t1 bv) (own_bi w0 bw, own_bi w1 bw) (own_bi r0 br, own_bi r1 br) (own_bd (own_m s0), own_bd (own_m s1)) (own_bd (own_m e0_), own_bd (own_m e1)) (own_bd (own_m c0), own_bd (own_m cc1)) (own_bd (own_m d0), own_bd (own_m d1)) T961.heap (by decide) f996 f997 f998 f999 (own_sta_keep S0 Op979.1 own_ns0) f1004 f1006 f1007 f1008 f1009 f1010 f1011 f1012 f1013 hm2961 hm3961 rfl rfl rfl rfl rfl rfl rfl rfl) (W := 0) (by decide) (by decide) (by rw [hml]; rfl) (lenOf pd_6 rfl) (Nat.le_of_eq rfl) (hb hby at_540) (by decide) (by decide) rfl ?_
              rintro T1014 v1014 L1014 X1014 ⟨rfl, e1014, rfl⟩
              rw [List.append_nil] at X1014
              refine E.iload (q := 545) X1014 hx (hb hby at_543) rfl ?_
              refine E.icmpN (q := 548) X1014 hx (hb hby at_545) (XT.ii_ne_f (own_f20 (hF0.symm.trans hz0))) ?_
              refine E.aload (q := 550) X1014 hx (hb hby at_548) rfl rfl ?_
              refine Ends.callV X1014 hx hZ hown (hw _ (List.mem_of_getElem? (i := 59) rfl)) (hw _ (List.mem_of_getElem? (i := 60) rfl)) (hw _ (List.mem_of_getElem? (i := 62) rfl)) (hw _ (List.mem_of_getElem? (i := 61) rfl)) (hw _ (List.mem_of_getElem? (i := 10) rfl)) (hw _ (List.mem_of_getElem? (i := 63) rfl)) (by decide) (argsL := []) (rest := []) e1014 f996 (rm11 l Z a0 hw b925 (2 : Int32) T961.heap f999) (W := 0) (by decide) (by decide) (by rw [hml]; rfl) (lenOf pd_7 rfl) (Nat.le_of_eq rfl) (hb hby at_550) (by decide) (by decide) rfl ?_
              rintro T1015 v1015 L1015 X1015 ⟨rfl, e1015, rfl⟩
              rw [List.append_nil] at X1015
              refine E.iload (q := 555) X1015 hx (hb hby at_553) rfl ?_
              refine E.icmpN (q := 558) X1015 hx (hb hby at_555) (XT.ii_ne_f (by decide)) ?_
              refine E.iconst (q := 559) (v := (1 : Int32)) X1015 hx (hb hby at_558) rfl ?_
              refine E.goto (q := 563) X1015 hx (hb hby at_559) ?_
              exact Ends.retS X1015 hx hlk hret (by simp) rfl (hb hby at_563) (by decide) (by decide) ⟨rfl, Op979.fr⟩
            · refine E.ifY (q := 510) Xf1 hx (hb hby at_501) (XT.i0_ne_t hz0) ?_
              refine E.iload (q := 512) Xf1 hx (hb hby at_510) rfl ?_
              refine E.iconst (q := 513) (v := (1 : Int32)) Xf1 hx (hb hby at_512) rfl ?_
              refine E.icmpY (q := 522) Xf1 hx (hb hby at_513) (XT.ii_ne_t (by decide)) ?_
              refine E.iload (q := 524) Xf1 hx (hb hby at_522) rfl ?_
              by_cases hz1 : F1 = (0 : Int32)
              · refine E.ifN (q := 527) Xf1 hx (hb hby at_524) (XT.i0_ne_f hz1) ?_
                refine E.iconst (q := 528) (v := (1 : Int32)) Xf1 hx (hb hby at_527) rfl ?_
                refine E.istore (q := 530) (l' := #[.val (.long pp0), .second, .val (.long pp1), .second, .val (.long pp2), .second, .val (.long pp3), .second, .val (.long pp4), .second, .val (.long pp5), .second, .val (.int bv), .val (.int bw), .val (.int br), .val (.int ct), .val (.int (2 : Int32)), .val (.int (1 : Int32)), .val (.int s0), .val (.int e0_), .val (.int c0), .val (.int d0), .val (.int s1), .val (.int e1), .val (.int cc1), .val (.int d1), .val (.int f0), .val (.int t0), .val (.int w0), .val (.int r0), .val (.int f1), .val (.int t1), .val (.int w1), .val (.int r1), .val (.ref b652), .val (.ref b925), .val (.int F0), .val (.int F1), .val (.int (1 : Int32))]) Xf1 hx (hb hby at_528) rfl ?_
                refine E.goto (q := 536) Xf1 hx (hb hby at_530) ?_
                refine E.aload (q := 538) Xf1 hx (hb hby at_536) rfl rfl ?_
                refine E.aload (q := 540) Xf1 hx (hb hby at_538) rfl rfl ?_
                have f1016 := f960.keep hO961.1
                have f1017 := hFn954.keep hO961.1 (ninS (Nat.ne_of_lt (Nat.lt_trans ch0 (Nat.lt_trans ch1 (Nat.lt_trans ch2 (Nat.lt_trans ch3 (Nat.lt_trans ch4 (Nat.lt_trans ch5 (Nat.lt_trans ch6 (Nat.lt_trans ch7 ch8))))))))) (ninS (Nat.ne_of_lt (Nat.lt_trans ch0 (Nat.lt_trans ch1 (Nat.lt_trans ch2 (Nat.lt_trans ch3 (Nat.lt_trans ch4 (Nat.lt_trans ch5 (Nat.lt_trans ch6 (Nat.lt_trans ch7 (Nat.lt_trans ch8 ch9)))))))))) nin0))
                have f1018 := hFm954.keep hO961.1 (ninS (Nat.ne_of_lt (Nat.lt_trans ch0 (Nat.lt_trans ch1 (Nat.lt_trans ch2 (Nat.lt_trans ch3 (Nat.lt_trans ch4 (Nat.lt_trans ch5 (Nat.lt_trans ch6 (Nat.lt_trans ch7 ch8))))))))) (ninS (Nat.ne_of_lt (Nat.lt_trans ch0 (Nat.lt_trans ch1 (Nat.lt_trans ch2 (Nat.lt_trans ch3 (Nat.lt_trans ch4 (Nat.lt_trans ch5 (Nat.lt_trans ch6 (Nat.lt_trans ch7 (Nat.lt_trans ch8 ch9)))))))))) nin0))
                have f1019 := hFs954.keep hO961.1 (ninS (Nat.ne_of_lt (Nat.lt_trans ch0 (Nat.lt_trans ch1 (Nat.lt_trans ch2 (Nat.lt_trans ch3 (Nat.lt_trans ch4 (Nat.lt_trans ch5 (Nat.lt_trans ch6 (Nat.lt_trans ch7 ch8))))))))) (ninS (Nat.ne_of_lt (Nat.lt_trans ch0 (Nat.lt_trans ch1 (Nat.lt_trans ch2 (Nat.lt_trans ch3 (Nat.lt_trans ch4 (Nat.lt_trans ch5 (Nat.lt_trans ch6 (Nat.lt_trans ch7 (Nat.lt_trans ch8 ch9)))))))))) nin0))
                have f1020 := f926.keep hO927.1 (ninS (Nat.ne_of_lt (Nat.lt_of_lt_of_eq V656.lt g925.symm)) nin0)
                have f1021 := f1020.keep hO931.1 (ninS (Nat.ne_of_lt (Nat.lt_of_lt_of_eq V656.lt g925.symm)) (ninS (Nat.ne_of_lt (Nat.lt_trans nb_nA (Nat.lt_trans ch1 ch2))) (ninS (Nat.ne_of_lt (Nat.lt_trans nb_nA (Nat.lt_trans ch1 (Nat.lt_trans ch2 ch3)))) (ninS (Nat.ne_of_lt (Nat.lt_trans nb_nA (Nat.lt_trans ch1 (Nat.lt_trans ch2 (Nat.lt_trans ch3 ch4))))) (ninS (Nat.ne_of_lt (Nat.lt_trans nb_nA (Nat.lt_trans ch1 (Nat.lt_trans ch2 (Nat.lt_trans ch3 (Nat.lt_trans ch4 ch5)))))) (ninS (Nat.ne_of_lt (Nat.lt_trans nb_nA (Nat.lt_trans ch1 (Nat.lt_trans ch2 (Nat.lt_trans ch3 (Nat.lt_trans ch4 (Nat.lt_trans ch5 ch6))))))) (ninS (Nat.ne_of_lt (Nat.lt_trans nb_nA (Nat.lt_trans ch1 (Nat.lt_trans ch2 (Nat.lt_trans ch3 (Nat.lt_trans ch4 (Nat.lt_trans ch5 (Nat.lt_trans ch6 ch7)))))))) nin0)))))))
                have f1022 := f1021.keep hO938.1 (ninS (Nat.ne_of_lt (Nat.lt_trans nb_nA (Nat.lt_trans ch1 (Nat.lt_trans ch2 (Nat.lt_trans ch3 (Nat.lt_trans ch4 (Nat.lt_trans ch5 (Nat.lt_trans ch6 (Nat.lt_trans ch7 ch8))))))))) (ninS (Nat.ne_of_lt (Nat.lt_trans nb_nA (Nat.lt_trans ch1 (Nat.lt_trans ch2 (Nat.lt_trans ch3 (Nat.lt_trans ch4 (Nat.lt_trans ch5 (Nat.lt_trans ch6 (Nat.lt_trans ch7 (Nat.lt_trans ch8 ch9)))))))))) nin0))
                have f1023 := f1022.keep hO954.1 (ninS (Nat.ne_of_lt (Nat.lt_of_lt_of_eq V656.lt g925.symm)) (ninS (Nat.ne_of_lt (Nat.lt_trans nb_nA (Nat.lt_trans ch1 ch2))) (ninS (Nat.ne_of_lt (Nat.lt_trans nb_nA (Nat.lt_trans ch1 (Nat.lt_trans ch2 ch3)))) (ninS (Nat.ne_of_lt (Nat.lt_trans nb_nA (Nat.lt_trans ch1 (Nat.lt_trans ch2 (Nat.lt_trans ch3 ch4))))) (ninS (Nat.ne_of_lt (Nat.lt_trans nb_nA (Nat.lt_trans ch1 (Nat.lt_trans ch2 (Nat.lt_trans ch3 (Nat.lt_trans ch4 ch5)))))) (ninS (Nat.ne_of_lt (Nat.lt_trans nb_nA (Nat.lt_trans ch1 (Nat.lt_trans ch2 (Nat.lt_trans ch3 (Nat.lt_trans ch4 (Nat.lt_trans ch5 ch6))))))) (ninS (Nat.ne_of_lt (Nat.lt_trans nb_nA (Nat.lt_trans ch1 (Nat.lt_trans ch2 (Nat.lt_trans ch3 (Nat.lt_trans ch4 (Nat.lt_trans ch5 (Nat.lt_trans ch6 ch7)))))))) nin0)))))))
                have f1024 := f1023.keep hO961.1 (ninS (Nat.ne_of_lt (Nat.lt_trans nb_nA (Nat.lt_trans ch1 (Nat.lt_trans ch2 (Nat.lt_trans ch3 (Nat.lt_trans ch4 (Nat.lt_trans ch5 (Nat.lt_trans ch6 (Nat.lt_trans ch7 ch8))))))))) (ninS (Nat.ne_of_lt (Nat.lt_trans nb_nA (Nat.lt_trans ch1 (Nat.lt_trans ch2 (Nat.lt_trans ch3 (Nat.lt_trans ch4 (Nat.lt_trans ch5 (Nat.lt_trans ch6 (Nat.lt_trans ch7 (Nat.lt_trans ch8 ch9)))))))))) nin0))
                have f1025 := f945.keep hO954.1 (ninS (Ne.symm (Nat.ne_of_lt ch0)) (ninS (Nat.ne_of_lt (Nat.lt_trans ch1 ch2)) (ninS (Nat.ne_of_lt (Nat.lt_trans ch1 (Nat.lt_trans ch2 ch3))) (ninS (Nat.ne_of_lt (Nat.lt_trans ch1 (Nat.lt_trans ch2 (Nat.lt_trans ch3 ch4)))) (ninS (Nat.ne_of_lt (Nat.lt_trans ch1 (Nat.lt_trans ch2 (Nat.lt_trans ch3 (Nat.lt_trans ch4 ch5))))) (ninS (Nat.ne_of_lt (Nat.lt_trans ch1 (Nat.lt_trans ch2 (Nat.lt_trans ch3 (Nat.lt_trans ch4 (Nat.lt_trans ch5 ch6)))))) (ninS (Nat.ne_of_lt (Nat.lt_trans ch1 (Nat.lt_trans ch2 (Nat.lt_trans ch3 (Nat.lt_trans ch4 (Nat.lt_trans ch5 (Nat.lt_trans ch6 ch7))))))) nin0)))))))
                have f1026 := f1025.keep hO961.1 (ninS (Nat.ne_of_lt (Nat.lt_trans ch1 (Nat.lt_trans ch2 (Nat.lt_trans ch3 (Nat.lt_trans ch4 (Nat.lt_trans ch5 (Nat.lt_trans ch6 (Nat.lt_trans ch7 ch8)))))))) (ninS (Nat.ne_of_lt (Nat.lt_trans ch1 (Nat.lt_trans ch2 (Nat.lt_trans ch3 (Nat.lt_trans ch4 (Nat.lt_trans ch5 (Nat.lt_trans ch6 (Nat.lt_trans ch7 (Nat.lt_trans ch8 ch9))))))))) nin0))
                have f1027 := f957.keep hO961.1 (ninS (Nat.ne_of_lt (Nat.lt_trans ch2 (Nat.lt_trans ch3 (Nat.lt_trans ch4 (Nat.lt_trans ch5 (Nat.lt_trans ch6 (Nat.lt_trans ch7 ch8))))))) (ninS (Nat.ne_of_lt (Nat.lt_trans ch2 (Nat.lt_trans ch3 (Nat.lt_trans ch4 (Nat.lt_trans ch5 (Nat.lt_trans ch6 (Nat.lt_trans ch7 (Nat.lt_trans ch8 ch9)))))))) nin0))
                have f1028 := hn0954.keep hO961.1 (ninS (Nat.ne_of_lt (Nat.lt_trans ch3 (Nat.lt_trans ch4 (Nat.lt_trans ch5 (Nat.lt_trans ch6 (Nat.lt_trans ch7 ch8)))))) (ninS (Nat.ne_of_lt (Nat.lt_trans ch3 (Nat.lt_trans ch4 (Nat.lt_trans ch5 (Nat.lt_trans ch6 (Nat.lt_trans ch7 (Nat.lt_trans ch8 ch9))))))) nin0))
                have f1029 := hn1954.keep hO961.1 (ninS (Nat.ne_of_lt (Nat.lt_trans ch4 (Nat.lt_trans ch5 (Nat.lt_trans ch6 (Nat.lt_trans ch7 ch8))))) (ninS (Nat.ne_of_lt (Nat.lt_trans ch4 (Nat.lt_trans ch5 (Nat.lt_trans ch6 (Nat.lt_trans ch7 (Nat.lt_trans ch8 ch9)))))) nin0))
                have f1030 := hn2954.keep hO961.1 (ninS (Nat.ne_of_lt (Nat.lt_trans ch5 (Nat.lt_trans ch6 (Nat.lt_trans ch7 ch8)))) (ninS (Nat.ne_of_lt (Nat.lt_trans ch5 (Nat.lt_trans ch6 (Nat.lt_trans ch7 (Nat.lt_trans ch8 ch9))))) nin0))
                have f1031 := hn3954.keep hO961.1 (ninS (Nat.ne_of_lt (Nat.lt_trans ch6 (Nat.lt_trans ch7 ch8))) (ninS (Nat.ne_of_lt (Nat.lt_trans ch6 (Nat.lt_trans ch7 (Nat.lt_trans ch8 ch9)))) nin0))
                have f1032 := hm0954.keep hO961.1 (ninS (Nat.ne_of_lt (Nat.lt_trans ch7 ch8)) (ninS (Nat.ne_of_lt (Nat.lt_trans ch7 (Nat.lt_trans ch8 ch9))) nin0))
                have f1033 := hm1954.keep hO961.1 (ninS (Nat.ne_of_lt ch8) (ninS (Nat.ne_of_lt (Nat.lt_trans ch8 ch9)) nin0))
                refine Ends.callV Xf1 hx hZ hown (hw _ (List.mem_of_getElem? (i := 54) rfl)) (hw _ (List.mem_of_getElem? (i := 55) rfl)) (hw _ (List.mem_of_getElem? (i := 57) rfl)) (hw _ (List.mem_of_getElem? (i := 56) rfl)) (hw _ (List.mem_of_getElem? (i := 10) rfl)) (hw _ (List.mem_of_getElem? (i := 58) rfl)) (by decide) (argsL := [(.ref b652)]) (rest := []) ef1 f1016 (rmF1 l Z a0 hw b925 b652 (2 : Int32) nA mA n0 n1 n2 n3 m0 m1 m2 m3 f0 f1 (0 : Int32) t0 t1 (0 : Int32) w0 w1 (0 : Int32) r0 r1 (0 : Int32) (own_m s0) (own_m s1) (0 : UInt64) (own_m e0_) (own_m e1) (0 : UInt64) (own_m c0) (own_m cc1) (0 : UInt64) (own_m d0) (own_m d1) (0 : UInt64) bv bv bw br (own_bi f0 bv, own_bi f1 bv) (own_bi t0 bv, own_bi t1 bv) (own_bi w0 bw, own_bi w1 bw) (own_bi r0 br, own_bi r1 br) (own_bd (own_m s0), own_bd (own_m s1)) (own_bd (own_m e0_), own_bd (own_m e1)) (own_bd (own_m c0), own_bd (own_m cc1)) (own_bd (own_m d0), own_bd (own_m d1)) T961.heap (by decide) f1016 f1017 f1018 f1019 (own_sta_keep S0 Op979.1 own_ns0) f1024 f1026 f1027 f1028 f1029 f1030 f1031 f1032 f1033 hm2961 hm3961 rfl rfl rfl rfl rfl rfl rfl rfl) (W := 0) (by decide) (by decide) (by rw [hml]; rfl) (lenOf pd_6 rfl) (Nat.le_of_eq rfl) (hb hby at_540) (by decide) (by decide) rfl ?_
                rintro T1034 v1034 L1034 X1034 ⟨rfl, e1034, rfl⟩
                rw [List.append_nil] at X1034
                refine E.iload (q := 545) X1034 hx (hb hby at_543) rfl ?_
                refine E.icmpN (q := 548) X1034 hx (hb hby at_545) (XT.ii_ne_f (own_f21 (fun q => hz0 (hF0.trans q)) (hF1.symm.trans hz1))) ?_
                refine E.aload (q := 550) X1034 hx (hb hby at_548) rfl rfl ?_
                refine Ends.callV X1034 hx hZ hown (hw _ (List.mem_of_getElem? (i := 59) rfl)) (hw _ (List.mem_of_getElem? (i := 60) rfl)) (hw _ (List.mem_of_getElem? (i := 62) rfl)) (hw _ (List.mem_of_getElem? (i := 61) rfl)) (hw _ (List.mem_of_getElem? (i := 10) rfl)) (hw _ (List.mem_of_getElem? (i := 63) rfl)) (by decide) (argsL := []) (rest := []) e1034 f1016 (rm11 l Z a0 hw b925 (2 : Int32) T961.heap f1019) (W := 0) (by decide) (by decide) (by rw [hml]; rfl) (lenOf pd_7 rfl) (Nat.le_of_eq rfl) (hb hby at_550) (by decide) (by decide) rfl ?_
                rintro T1035 v1035 L1035 X1035 ⟨rfl, e1035, rfl⟩
                rw [List.append_nil] at X1035
                refine E.iload (q := 555) X1035 hx (hb hby at_553) rfl ?_
                refine E.icmpN (q := 558) X1035 hx (hb hby at_555) (XT.ii_ne_f (by decide)) ?_
                refine E.iconst (q := 559) (v := (1 : Int32)) X1035 hx (hb hby at_558) rfl ?_
                refine E.goto (q := 563) X1035 hx (hb hby at_559) ?_
                exact Ends.retS X1035 hx hlk hret (by simp) rfl (hb hby at_563) (by decide) (by decide) ⟨rfl, Op979.fr⟩
              · refine E.ifY (q := 533) Xf1 hx (hb hby at_524) (XT.i0_ne_t hz1) ?_
                refine E.iconst (q := 534) (v := (2 : Int32)) Xf1 hx (hb hby at_533) rfl ?_
                refine E.istore (q := 536) (l' := #[.val (.long pp0), .second, .val (.long pp1), .second, .val (.long pp2), .second, .val (.long pp3), .second, .val (.long pp4), .second, .val (.long pp5), .second, .val (.int bv), .val (.int bw), .val (.int br), .val (.int ct), .val (.int (2 : Int32)), .val (.int (1 : Int32)), .val (.int s0), .val (.int e0_), .val (.int c0), .val (.int d0), .val (.int s1), .val (.int e1), .val (.int cc1), .val (.int d1), .val (.int f0), .val (.int t0), .val (.int w0), .val (.int r0), .val (.int f1), .val (.int t1), .val (.int w1), .val (.int r1), .val (.ref b652), .val (.ref b925), .val (.int F0), .val (.int F1), .val (.int (2 : Int32))]) Xf1 hx (hb hby at_534) rfl ?_
                refine E.aload (q := 538) Xf1 hx (hb hby at_536) rfl rfl ?_
                refine E.aload (q := 540) Xf1 hx (hb hby at_538) rfl rfl ?_
                have f1036 := f960.keep hO961.1
                have f1037 := hFn954.keep hO961.1 (ninS (Nat.ne_of_lt (Nat.lt_trans ch0 (Nat.lt_trans ch1 (Nat.lt_trans ch2 (Nat.lt_trans ch3 (Nat.lt_trans ch4 (Nat.lt_trans ch5 (Nat.lt_trans ch6 (Nat.lt_trans ch7 ch8))))))))) (ninS (Nat.ne_of_lt (Nat.lt_trans ch0 (Nat.lt_trans ch1 (Nat.lt_trans ch2 (Nat.lt_trans ch3 (Nat.lt_trans ch4 (Nat.lt_trans ch5 (Nat.lt_trans ch6 (Nat.lt_trans ch7 (Nat.lt_trans ch8 ch9)))))))))) nin0))
                have f1038 := hFm954.keep hO961.1 (ninS (Nat.ne_of_lt (Nat.lt_trans ch0 (Nat.lt_trans ch1 (Nat.lt_trans ch2 (Nat.lt_trans ch3 (Nat.lt_trans ch4 (Nat.lt_trans ch5 (Nat.lt_trans ch6 (Nat.lt_trans ch7 ch8))))))))) (ninS (Nat.ne_of_lt (Nat.lt_trans ch0 (Nat.lt_trans ch1 (Nat.lt_trans ch2 (Nat.lt_trans ch3 (Nat.lt_trans ch4 (Nat.lt_trans ch5 (Nat.lt_trans ch6 (Nat.lt_trans ch7 (Nat.lt_trans ch8 ch9)))))))))) nin0))
                have f1039 := hFs954.keep hO961.1 (ninS (Nat.ne_of_lt (Nat.lt_trans ch0 (Nat.lt_trans ch1 (Nat.lt_trans ch2 (Nat.lt_trans ch3 (Nat.lt_trans ch4 (Nat.lt_trans ch5 (Nat.lt_trans ch6 (Nat.lt_trans ch7 ch8))))))))) (ninS (Nat.ne_of_lt (Nat.lt_trans ch0 (Nat.lt_trans ch1 (Nat.lt_trans ch2 (Nat.lt_trans ch3 (Nat.lt_trans ch4 (Nat.lt_trans ch5 (Nat.lt_trans ch6 (Nat.lt_trans ch7 (Nat.lt_trans ch8 ch9)))))))))) nin0))
                have f1040 := f926.keep hO927.1 (ninS (Nat.ne_of_lt (Nat.lt_of_lt_of_eq V656.lt g925.symm)) nin0)
                have f1041 := f1040.keep hO931.1 (ninS (Nat.ne_of_lt (Nat.lt_of_lt_of_eq V656.lt g925.symm)) (ninS (Nat.ne_of_lt (Nat.lt_trans nb_nA (Nat.lt_trans ch1 ch2))) (ninS (Nat.ne_of_lt (Nat.lt_trans nb_nA (Nat.lt_trans ch1 (Nat.lt_trans ch2 ch3)))) (ninS (Nat.ne_of_lt (Nat.lt_trans nb_nA (Nat.lt_trans ch1 (Nat.lt_trans ch2 (Nat.lt_trans ch3 ch4))))) (ninS (Nat.ne_of_lt (Nat.lt_trans nb_nA (Nat.lt_trans ch1 (Nat.lt_trans ch2 (Nat.lt_trans ch3 (Nat.lt_trans ch4 ch5)))))) (ninS (Nat.ne_of_lt (Nat.lt_trans nb_nA (Nat.lt_trans ch1 (Nat.lt_trans ch2 (Nat.lt_trans ch3 (Nat.lt_trans ch4 (Nat.lt_trans ch5 ch6))))))) (ninS (Nat.ne_of_lt (Nat.lt_trans nb_nA (Nat.lt_trans ch1 (Nat.lt_trans ch2 (Nat.lt_trans ch3 (Nat.lt_trans ch4 (Nat.lt_trans ch5 (Nat.lt_trans ch6 ch7)))))))) nin0)))))))
                have f1042 := f1041.keep hO938.1 (ninS (Nat.ne_of_lt (Nat.lt_trans nb_nA (Nat.lt_trans ch1 (Nat.lt_trans ch2 (Nat.lt_trans ch3 (Nat.lt_trans ch4 (Nat.lt_trans ch5 (Nat.lt_trans ch6 (Nat.lt_trans ch7 ch8))))))))) (ninS (Nat.ne_of_lt (Nat.lt_trans nb_nA (Nat.lt_trans ch1 (Nat.lt_trans ch2 (Nat.lt_trans ch3 (Nat.lt_trans ch4 (Nat.lt_trans ch5 (Nat.lt_trans ch6 (Nat.lt_trans ch7 (Nat.lt_trans ch8 ch9)))))))))) nin0))
                have f1043 := f1042.keep hO954.1 (ninS (Nat.ne_of_lt (Nat.lt_of_lt_of_eq V656.lt g925.symm)) (ninS (Nat.ne_of_lt (Nat.lt_trans nb_nA (Nat.lt_trans ch1 ch2))) (ninS (Nat.ne_of_lt (Nat.lt_trans nb_nA (Nat.lt_trans ch1 (Nat.lt_trans ch2 ch3)))) (ninS (Nat.ne_of_lt (Nat.lt_trans nb_nA (Nat.lt_trans ch1 (Nat.lt_trans ch2 (Nat.lt_trans ch3 ch4))))) (ninS (Nat.ne_of_lt (Nat.lt_trans nb_nA (Nat.lt_trans ch1 (Nat.lt_trans ch2 (Nat.lt_trans ch3 (Nat.lt_trans ch4 ch5)))))) (ninS (Nat.ne_of_lt (Nat.lt_trans nb_nA (Nat.lt_trans ch1 (Nat.lt_trans ch2 (Nat.lt_trans ch3 (Nat.lt_trans ch4 (Nat.lt_trans ch5 ch6))))))) (ninS (Nat.ne_of_lt (Nat.lt_trans nb_nA (Nat.lt_trans ch1 (Nat.lt_trans ch2 (Nat.lt_trans ch3 (Nat.lt_trans ch4 (Nat.lt_trans ch5 (Nat.lt_trans ch6 ch7)))))))) nin0)))))))
                have f1044 := f1043.keep hO961.1 (ninS (Nat.ne_of_lt (Nat.lt_trans nb_nA (Nat.lt_trans ch1 (Nat.lt_trans ch2 (Nat.lt_trans ch3 (Nat.lt_trans ch4 (Nat.lt_trans ch5 (Nat.lt_trans ch6 (Nat.lt_trans ch7 ch8))))))))) (ninS (Nat.ne_of_lt (Nat.lt_trans nb_nA (Nat.lt_trans ch1 (Nat.lt_trans ch2 (Nat.lt_trans ch3 (Nat.lt_trans ch4 (Nat.lt_trans ch5 (Nat.lt_trans ch6 (Nat.lt_trans ch7 (Nat.lt_trans ch8 ch9)))))))))) nin0))
                have f1045 := f945.keep hO954.1 (ninS (Ne.symm (Nat.ne_of_lt ch0)) (ninS (Nat.ne_of_lt (Nat.lt_trans ch1 ch2)) (ninS (Nat.ne_of_lt (Nat.lt_trans ch1 (Nat.lt_trans ch2 ch3))) (ninS (Nat.ne_of_lt (Nat.lt_trans ch1 (Nat.lt_trans ch2 (Nat.lt_trans ch3 ch4)))) (ninS (Nat.ne_of_lt (Nat.lt_trans ch1 (Nat.lt_trans ch2 (Nat.lt_trans ch3 (Nat.lt_trans ch4 ch5))))) (ninS (Nat.ne_of_lt (Nat.lt_trans ch1 (Nat.lt_trans ch2 (Nat.lt_trans ch3 (Nat.lt_trans ch4 (Nat.lt_trans ch5 ch6)))))) (ninS (Nat.ne_of_lt (Nat.lt_trans ch1 (Nat.lt_trans ch2 (Nat.lt_trans ch3 (Nat.lt_trans ch4 (Nat.lt_trans ch5 (Nat.lt_trans ch6 ch7))))))) nin0)))))))
                have f1046 := f1045.keep hO961.1 (ninS (Nat.ne_of_lt (Nat.lt_trans ch1 (Nat.lt_trans ch2 (Nat.lt_trans ch3 (Nat.lt_trans ch4 (Nat.lt_trans ch5 (Nat.lt_trans ch6 (Nat.lt_trans ch7 ch8)))))))) (ninS (Nat.ne_of_lt (Nat.lt_trans ch1 (Nat.lt_trans ch2 (Nat.lt_trans ch3 (Nat.lt_trans ch4 (Nat.lt_trans ch5 (Nat.lt_trans ch6 (Nat.lt_trans ch7 (Nat.lt_trans ch8 ch9))))))))) nin0))
                have f1047 := f957.keep hO961.1 (ninS (Nat.ne_of_lt (Nat.lt_trans ch2 (Nat.lt_trans ch3 (Nat.lt_trans ch4 (Nat.lt_trans ch5 (Nat.lt_trans ch6 (Nat.lt_trans ch7 ch8))))))) (ninS (Nat.ne_of_lt (Nat.lt_trans ch2 (Nat.lt_trans ch3 (Nat.lt_trans ch4 (Nat.lt_trans ch5 (Nat.lt_trans ch6 (Nat.lt_trans ch7 (Nat.lt_trans ch8 ch9)))))))) nin0))
                have f1048 := hn0954.keep hO961.1 (ninS (Nat.ne_of_lt (Nat.lt_trans ch3 (Nat.lt_trans ch4 (Nat.lt_trans ch5 (Nat.lt_trans ch6 (Nat.lt_trans ch7 ch8)))))) (ninS (Nat.ne_of_lt (Nat.lt_trans ch3 (Nat.lt_trans ch4 (Nat.lt_trans ch5 (Nat.lt_trans ch6 (Nat.lt_trans ch7 (Nat.lt_trans ch8 ch9))))))) nin0))
                have f1049 := hn1954.keep hO961.1 (ninS (Nat.ne_of_lt (Nat.lt_trans ch4 (Nat.lt_trans ch5 (Nat.lt_trans ch6 (Nat.lt_trans ch7 ch8))))) (ninS (Nat.ne_of_lt (Nat.lt_trans ch4 (Nat.lt_trans ch5 (Nat.lt_trans ch6 (Nat.lt_trans ch7 (Nat.lt_trans ch8 ch9)))))) nin0))
                have f1050 := hn2954.keep hO961.1 (ninS (Nat.ne_of_lt (Nat.lt_trans ch5 (Nat.lt_trans ch6 (Nat.lt_trans ch7 ch8)))) (ninS (Nat.ne_of_lt (Nat.lt_trans ch5 (Nat.lt_trans ch6 (Nat.lt_trans ch7 (Nat.lt_trans ch8 ch9))))) nin0))
                have f1051 := hn3954.keep hO961.1 (ninS (Nat.ne_of_lt (Nat.lt_trans ch6 (Nat.lt_trans ch7 ch8))) (ninS (Nat.ne_of_lt (Nat.lt_trans ch6 (Nat.lt_trans ch7 (Nat.lt_trans ch8 ch9)))) nin0))
                have f1052 := hm0954.keep hO961.1 (ninS (Nat.ne_of_lt (Nat.lt_trans ch7 ch8)) (ninS (Nat.ne_of_lt (Nat.lt_trans ch7 (Nat.lt_trans ch8 ch9))) nin0))
                have f1053 := hm1954.keep hO961.1 (ninS (Nat.ne_of_lt ch8) (ninS (Nat.ne_of_lt (Nat.lt_trans ch8 ch9)) nin0))
                refine Ends.callV Xf1 hx hZ hown (hw _ (List.mem_of_getElem? (i := 54) rfl)) (hw _ (List.mem_of_getElem? (i := 55) rfl)) (hw _ (List.mem_of_getElem? (i := 57) rfl)) (hw _ (List.mem_of_getElem? (i := 56) rfl)) (hw _ (List.mem_of_getElem? (i := 10) rfl)) (hw _ (List.mem_of_getElem? (i := 58) rfl)) (by decide) (argsL := [(.ref b652)]) (rest := []) ef1 f1036 (rmF1 l Z a0 hw b925 b652 (2 : Int32) nA mA n0 n1 n2 n3 m0 m1 m2 m3 f0 f1 (0 : Int32) t0 t1 (0 : Int32) w0 w1 (0 : Int32) r0 r1 (0 : Int32) (own_m s0) (own_m s1) (0 : UInt64) (own_m e0_) (own_m e1) (0 : UInt64) (own_m c0) (own_m cc1) (0 : UInt64) (own_m d0) (own_m d1) (0 : UInt64) bv bv bw br (own_bi f0 bv, own_bi f1 bv) (own_bi t0 bv, own_bi t1 bv) (own_bi w0 bw, own_bi w1 bw) (own_bi r0 br, own_bi r1 br) (own_bd (own_m s0), own_bd (own_m s1)) (own_bd (own_m e0_), own_bd (own_m e1)) (own_bd (own_m c0), own_bd (own_m cc1)) (own_bd (own_m d0), own_bd (own_m d1)) T961.heap (by decide) f1036 f1037 f1038 f1039 (own_sta_keep S0 Op979.1 own_ns0) f1044 f1046 f1047 f1048 f1049 f1050 f1051 f1052 f1053 hm2961 hm3961 rfl rfl rfl rfl rfl rfl rfl rfl) (W := 0) (by decide) (by decide) (by rw [hml]; rfl) (lenOf pd_6 rfl) (Nat.le_of_eq rfl) (hb hby at_540) (by decide) (by decide) rfl ?_
                rintro T1054 v1054 L1054 X1054 ⟨rfl, e1054, rfl⟩
                rw [List.append_nil] at X1054
                refine E.iload (q := 545) X1054 hx (hb hby at_543) rfl ?_
                refine E.icmpN (q := 548) X1054 hx (hb hby at_545) (XT.ii_ne_f (own_f22 (fun q => hz0 (hF0.trans q)) (fun q => hz1 (hF1.trans q)))) ?_
                refine E.aload (q := 550) X1054 hx (hb hby at_548) rfl rfl ?_
                refine Ends.callV X1054 hx hZ hown (hw _ (List.mem_of_getElem? (i := 59) rfl)) (hw _ (List.mem_of_getElem? (i := 60) rfl)) (hw _ (List.mem_of_getElem? (i := 62) rfl)) (hw _ (List.mem_of_getElem? (i := 61) rfl)) (hw _ (List.mem_of_getElem? (i := 10) rfl)) (hw _ (List.mem_of_getElem? (i := 63) rfl)) (by decide) (argsL := []) (rest := []) e1054 f1036 (rm11 l Z a0 hw b925 (2 : Int32) T961.heap f1039) (W := 0) (by decide) (by decide) (by rw [hml]; rfl) (lenOf pd_7 rfl) (Nat.le_of_eq rfl) (hb hby at_550) (by decide) (by decide) rfl ?_
                rintro T1055 v1055 L1055 X1055 ⟨rfl, e1055, rfl⟩
                rw [List.append_nil] at X1055
                refine E.iload (q := 555) X1055 hx (hb hby at_553) rfl ?_
                refine E.icmpN (q := 558) X1055 hx (hb hby at_555) (XT.ii_ne_f (by decide)) ?_
                refine E.iconst (q := 559) (v := (1 : Int32)) X1055 hx (hb hby at_558) rfl ?_
                refine E.goto (q := 563) X1055 hx (hb hby at_559) ?_
                exact Ends.retS X1055 hx hlk hret (by simp) rfl (hb hby at_563) (by decide) (by decide) ⟨rfl, Op979.fr⟩
          refine Ends.callS Xp979 hx hZ hown (hw _ (List.mem_of_getElem? (i := 51) rfl)) (hw _ (List.mem_of_getElem? (i := 52) rfl)) (hw _ (List.mem_of_getElem? (i := 2) rfl)) (hw _ (List.mem_of_getElem? (i := 53) rfl)) (by decide) (argsL := [(.int f1), (.int bv)]) (rest := []) ef0 (rm9 l Z a0 hw f1 bv T961.heap) (W := 0) (by decide) (by decide) (by rw [hml]; rfl) (lenOf pd_4 rfl) (Nat.le_of_eq rfl) (hb hby at_408) (by decide) (by decide) rfl ?_
          rintro T980 v980 L980 X980 ⟨rfl, e980, rfl⟩
          rw [List.append_nil] at X980
          by_cases hb981_1 : (own_in f1 bv) = (0 : Int32)
          · refine E.ifY (q := 485) X980 hx (hb hby at_411) (XT.i0_eq_t hb981_1) ?_
            have mhb981_1 := (own_in_bi).1 hb981_1
            refine E.iconst (q := 486) (v := (0 : Int32)) X980 hx (hb hby at_485) rfl ?_
            exact JF1 T980 X980 e980 _ (own_nb0 (by simp [mhb981_1]))
          · refine E.ifN (q := 414) X980 hx (hb hby at_411) (XT.i0_eq_f hb981_1) ?_
            have mhb981_1 := (own_in_bi).2 hb981_1
            refine E.iload (q := 416) X980 hx (hb hby at_414) rfl ?_
            refine E.iload (q := 418) X980 hx (hb hby at_416) rfl ?_
            refine Ends.callS X980 hx hZ hown (hw _ (List.mem_of_getElem? (i := 51) rfl)) (hw _ (List.mem_of_getElem? (i := 52) rfl)) (hw _ (List.mem_of_getElem? (i := 2) rfl)) (hw _ (List.mem_of_getElem? (i := 53) rfl)) (by decide) (argsL := [(.int t1), (.int bv)]) (rest := []) e980 (rm9 l Z a0 hw t1 bv T961.heap) (W := 0) (by decide) (by decide) (by rw [hml]; rfl) (lenOf pd_4 rfl) (Nat.le_of_eq rfl) (hb hby at_418) (by decide) (by decide) rfl ?_
            rintro T982 v982 L982 X982 ⟨rfl, e982, rfl⟩
            rw [List.append_nil] at X982
            by_cases hb983_1 : (own_in t1 bv) = (0 : Int32)
            · refine E.ifY (q := 485) X982 hx (hb hby at_421) (XT.i0_eq_t hb983_1) ?_
              have mhb983_1 := (own_in_bi).1 hb983_1
              refine E.iconst (q := 486) (v := (0 : Int32)) X982 hx (hb hby at_485) rfl ?_
              exact JF1 T982 X982 e982 _ (own_nb0 (by simp [mhb981_1, mhb983_1]))
            · refine E.ifN (q := 424) X982 hx (hb hby at_421) (XT.i0_eq_f hb983_1) ?_
              have mhb983_1 := (own_in_bi).2 hb983_1
              refine E.iload (q := 426) X982 hx (hb hby at_424) rfl ?_
              refine E.iload (q := 428) X982 hx (hb hby at_426) rfl ?_
              refine Ends.callS X982 hx hZ hown (hw _ (List.mem_of_getElem? (i := 51) rfl)) (hw _ (List.mem_of_getElem? (i := 52) rfl)) (hw _ (List.mem_of_getElem? (i := 2) rfl)) (hw _ (List.mem_of_getElem? (i := 53) rfl)) (by decide) (argsL := [(.int w1), (.int bw)]) (rest := []) e982 (rm9 l Z a0 hw w1 bw T961.heap) (W := 0) (by decide) (by decide) (by rw [hml]; rfl) (lenOf pd_4 rfl) (Nat.le_of_eq rfl) (hb hby at_428) (by decide) (by decide) rfl ?_
              rintro T984 v984 L984 X984 ⟨rfl, e984, rfl⟩
              rw [List.append_nil] at X984
              by_cases hb985_1 : (own_in w1 bw) = (0 : Int32)
              · refine E.ifY (q := 485) X984 hx (hb hby at_431) (XT.i0_eq_t hb985_1) ?_
                have mhb985_1 := (own_in_bi).1 hb985_1
                refine E.iconst (q := 486) (v := (0 : Int32)) X984 hx (hb hby at_485) rfl ?_
                exact JF1 T984 X984 e984 _ (own_nb0 (by simp [mhb981_1, mhb983_1, mhb985_1]))
              · refine E.ifN (q := 434) X984 hx (hb hby at_431) (XT.i0_eq_f hb985_1) ?_
                have mhb985_1 := (own_in_bi).2 hb985_1
                refine E.iload (q := 436) X984 hx (hb hby at_434) rfl ?_
                refine E.iload (q := 438) X984 hx (hb hby at_436) rfl ?_
                refine Ends.callS X984 hx hZ hown (hw _ (List.mem_of_getElem? (i := 51) rfl)) (hw _ (List.mem_of_getElem? (i := 52) rfl)) (hw _ (List.mem_of_getElem? (i := 2) rfl)) (hw _ (List.mem_of_getElem? (i := 53) rfl)) (by decide) (argsL := [(.int r1), (.int br)]) (rest := []) e984 (rm9 l Z a0 hw r1 br T961.heap) (W := 0) (by decide) (by decide) (by rw [hml]; rfl) (lenOf pd_4 rfl) (Nat.le_of_eq rfl) (hb hby at_438) (by decide) (by decide) rfl ?_
                rintro T986 v986 L986 X986 ⟨rfl, e986, rfl⟩
                rw [List.append_nil] at X986
                by_cases hb987_1 : (own_in r1 br) = (0 : Int32)
                · refine E.ifY (q := 485) X986 hx (hb hby at_441) (XT.i0_eq_t hb987_1) ?_
                  have mhb987_1 := (own_in_bi).1 hb987_1
                  refine E.iconst (q := 486) (v := (0 : Int32)) X986 hx (hb hby at_485) rfl ?_
                  exact JF1 T986 X986 e986 _ (own_nb0 (by simp [mhb981_1, mhb983_1, mhb985_1, mhb987_1]))
                · refine E.ifN (q := 444) X986 hx (hb hby at_441) (XT.i0_eq_f hb987_1) ?_
                  have mhb987_1 := (own_in_bi).2 hb987_1
                  refine E.iload (q := 446) X986 hx (hb hby at_444) rfl ?_
                  refine Ends.callS X986 hx hZ hown (hw _ (List.mem_of_getElem? (i := 72) rfl)) (hw _ (List.mem_of_getElem? (i := 73) rfl)) (hw _ (List.mem_of_getElem? (i := 2) rfl)) (hw _ (List.mem_of_getElem? (i := 74) rfl)) (by decide) (argsL := [(.int s1)]) (rest := []) e986 (rm13 l Z a0 hw s1 T961.heap) (W := 0) (by decide) (by decide) (by rw [hml]; rfl) (lenOf pd_5 rfl) (Nat.le_of_eq rfl) (hb hby at_446) (by decide) (by decide) rfl ?_
                  rintro T988 v988 L988 X988 ⟨rfl, e988, rfl⟩
                  rw [List.append_nil] at X988
                  by_cases hb989_1 : (own_fi s1) = (0 : Int32)
                  · refine E.ifY (q := 485) X988 hx (hb hby at_449) (XT.i0_eq_t hb989_1) ?_
                    have mhb989_1 := (own_fi_bd ks1).1 hb989_1
                    refine E.iconst (q := 486) (v := (0 : Int32)) X988 hx (hb hby at_485) rfl ?_
                    exact JF1 T988 X988 e988 _ (own_nb0 (by simp [mhb981_1, mhb983_1, mhb985_1, mhb987_1, mhb989_1]))
                  · refine E.ifN (q := 452) X988 hx (hb hby at_449) (XT.i0_eq_f hb989_1) ?_
                    have mhb989_1 := (own_fi_bd ks1).2 hb989_1
                    refine E.iload (q := 454) X988 hx (hb hby at_452) rfl ?_
                    refine Ends.callS X988 hx hZ hown (hw _ (List.mem_of_getElem? (i := 72) rfl)) (hw _ (List.mem_of_getElem? (i := 73) rfl)) (hw _ (List.mem_of_getElem? (i := 2) rfl)) (hw _ (List.mem_of_getElem? (i := 74) rfl)) (by decide) (argsL := [(.int e1)]) (rest := []) e988 (rm13 l Z a0 hw e1 T961.heap) (W := 0) (by decide) (by decide) (by rw [hml]; rfl) (lenOf pd_5 rfl) (Nat.le_of_eq rfl) (hb hby at_454) (by decide) (by decide) rfl ?_
                    rintro T990 v990 L990 X990 ⟨rfl, e990, rfl⟩
                    rw [List.append_nil] at X990
                    by_cases hb991_1 : (own_fi e1) = (0 : Int32)
                    · refine E.ifY (q := 485) X990 hx (hb hby at_457) (XT.i0_eq_t hb991_1) ?_
                      have mhb991_1 := (own_fi_bd ke1).1 hb991_1
                      refine E.iconst (q := 486) (v := (0 : Int32)) X990 hx (hb hby at_485) rfl ?_
                      exact JF1 T990 X990 e990 _ (own_nb0 (by simp [mhb981_1, mhb983_1, mhb985_1, mhb987_1, mhb989_1, mhb991_1]))
                    · refine E.ifN (q := 460) X990 hx (hb hby at_457) (XT.i0_eq_f hb991_1) ?_
                      have mhb991_1 := (own_fi_bd ke1).2 hb991_1
                      refine E.iload (q := 462) X990 hx (hb hby at_460) rfl ?_
                      refine E.ifN (q := 465) X990 hx (hb hby at_462) (XT.i0_eq_f (by decide)) ?_
                      refine E.iload (q := 467) X990 hx (hb hby at_465) rfl ?_
                      refine Ends.callS X990 hx hZ hown (hw _ (List.mem_of_getElem? (i := 72) rfl)) (hw _ (List.mem_of_getElem? (i := 73) rfl)) (hw _ (List.mem_of_getElem? (i := 2) rfl)) (hw _ (List.mem_of_getElem? (i := 74) rfl)) (by decide) (argsL := [(.int cc1)]) (rest := []) e990 (rm13 l Z a0 hw cc1 T961.heap) (W := 0) (by decide) (by decide) (by rw [hml]; rfl) (lenOf pd_5 rfl) (Nat.le_of_eq rfl) (hb hby at_467) (by decide) (by decide) rfl ?_
                      rintro T992 v992 L992 X992 ⟨rfl, e992, rfl⟩
                      rw [List.append_nil] at X992
                      by_cases hb993_1 : (own_fi cc1) = (0 : Int32)
                      · refine E.ifY (q := 485) X992 hx (hb hby at_470) (XT.i0_eq_t hb993_1) ?_
                        have mhb993_1 := (own_fi_bd kcc1).1 hb993_1
                        refine E.iconst (q := 486) (v := (0 : Int32)) X992 hx (hb hby at_485) rfl ?_
                        exact JF1 T992 X992 e992 _ (own_nb0 (by simp [mhb981_1, mhb983_1, mhb985_1, mhb987_1, mhb989_1, mhb991_1, mhb993_1]))
                      · refine E.ifN (q := 473) X992 hx (hb hby at_470) (XT.i0_eq_f hb993_1) ?_
                        have mhb993_1 := (own_fi_bd kcc1).2 hb993_1
                        refine E.iload (q := 475) X992 hx (hb hby at_473) rfl ?_
                        refine Ends.callS X992 hx hZ hown (hw _ (List.mem_of_getElem? (i := 72) rfl)) (hw _ (List.mem_of_getElem? (i := 73) rfl)) (hw _ (List.mem_of_getElem? (i := 2) rfl)) (hw _ (List.mem_of_getElem? (i := 74) rfl)) (by decide) (argsL := [(.int d1)]) (rest := []) e992 (rm13 l Z a0 hw d1 T961.heap) (W := 0) (by decide) (by decide) (by rw [hml]; rfl) (lenOf pd_5 rfl) (Nat.le_of_eq rfl) (hb hby at_475) (by decide) (by decide) rfl ?_
                        rintro T994 v994 L994 X994 ⟨rfl, e994, rfl⟩
                        rw [List.append_nil] at X994
                        by_cases hb995_1 : (own_fi d1) = (0 : Int32)
                        · refine E.ifY (q := 485) X994 hx (hb hby at_478) (XT.i0_eq_t hb995_1) ?_
                          have mhb995_1 := (own_fi_bd kd1).1 hb995_1
                          refine E.iconst (q := 486) (v := (0 : Int32)) X994 hx (hb hby at_485) rfl ?_
                          exact JF1 T994 X994 e994 _ (own_nb0 (by simp [mhb981_1, mhb983_1, mhb985_1, mhb987_1, mhb989_1, mhb991_1, mhb993_1, mhb995_1]))
                        · refine E.ifN (q := 481) X994 hx (hb hby at_478) (XT.i0_eq_f hb995_1) ?_
                          have mhb995_1 := (own_fi_bd kd1).2 hb995_1
                          refine E.iconst (q := 482) (v := (1 : Int32)) X994 hx (hb hby at_481) rfl ?_
                          refine E.goto (q := 486) X994 hx (hb hby at_482) ?_
                          exact JF1 T994 X994 e994 _ (own_nb1 (by simp [mhb981_1, mhb983_1, mhb985_1, mhb987_1, mhb989_1, mhb991_1, mhb993_1, mhb995_1]))
        refine Ends.callS Xp962 hx hZ hown (hw _ (List.mem_of_getElem? (i := 51) rfl)) (hw _ (List.mem_of_getElem? (i := 52) rfl)) (hw _ (List.mem_of_getElem? (i := 2) rfl)) (hw _ (List.mem_of_getElem? (i := 53) rfl)) (by decide) (argsL := [(.int f0), (.int bv)]) (rest := []) e961 (rm9 l Z a0 hw f0 bv T961.heap) (W := 0) (by decide) (by decide) (by rw [hml]; rfl) (lenOf pd_4 rfl) (Nat.le_of_eq rfl) (hb hby at_324) (by decide) (by decide) rfl ?_
        rintro T963 v963 L963 X963 ⟨rfl, e963, rfl⟩
        rw [List.append_nil] at X963
        by_cases hb964_0 : (own_in f0 bv) = (0 : Int32)
        · refine E.ifY (q := 401) X963 hx (hb hby at_327) (XT.i0_eq_t hb964_0) ?_
          have mhb964_0 := (own_in_bi).1 hb964_0
          refine E.iconst (q := 402) (v := (0 : Int32)) X963 hx (hb hby at_401) rfl ?_
          exact JF0 T963 X963 e963 _ (own_nb0 (by simp [mhb964_0]))
        · refine E.ifN (q := 330) X963 hx (hb hby at_327) (XT.i0_eq_f hb964_0) ?_
          have mhb964_0 := (own_in_bi).2 hb964_0
          refine E.iload (q := 332) X963 hx (hb hby at_330) rfl ?_
          refine E.iload (q := 334) X963 hx (hb hby at_332) rfl ?_
          refine Ends.callS X963 hx hZ hown (hw _ (List.mem_of_getElem? (i := 51) rfl)) (hw _ (List.mem_of_getElem? (i := 52) rfl)) (hw _ (List.mem_of_getElem? (i := 2) rfl)) (hw _ (List.mem_of_getElem? (i := 53) rfl)) (by decide) (argsL := [(.int t0), (.int bv)]) (rest := []) e963 (rm9 l Z a0 hw t0 bv T961.heap) (W := 0) (by decide) (by decide) (by rw [hml]; rfl) (lenOf pd_4 rfl) (Nat.le_of_eq rfl) (hb hby at_334) (by decide) (by decide) rfl ?_
          rintro T965 v965 L965 X965 ⟨rfl, e965, rfl⟩
          rw [List.append_nil] at X965
          by_cases hb966_0 : (own_in t0 bv) = (0 : Int32)
          · refine E.ifY (q := 401) X965 hx (hb hby at_337) (XT.i0_eq_t hb966_0) ?_
            have mhb966_0 := (own_in_bi).1 hb966_0
            refine E.iconst (q := 402) (v := (0 : Int32)) X965 hx (hb hby at_401) rfl ?_
            exact JF0 T965 X965 e965 _ (own_nb0 (by simp [mhb964_0, mhb966_0]))
          · refine E.ifN (q := 340) X965 hx (hb hby at_337) (XT.i0_eq_f hb966_0) ?_
            have mhb966_0 := (own_in_bi).2 hb966_0
            refine E.iload (q := 342) X965 hx (hb hby at_340) rfl ?_
            refine E.iload (q := 344) X965 hx (hb hby at_342) rfl ?_
            refine Ends.callS X965 hx hZ hown (hw _ (List.mem_of_getElem? (i := 51) rfl)) (hw _ (List.mem_of_getElem? (i := 52) rfl)) (hw _ (List.mem_of_getElem? (i := 2) rfl)) (hw _ (List.mem_of_getElem? (i := 53) rfl)) (by decide) (argsL := [(.int w0), (.int bw)]) (rest := []) e965 (rm9 l Z a0 hw w0 bw T961.heap) (W := 0) (by decide) (by decide) (by rw [hml]; rfl) (lenOf pd_4 rfl) (Nat.le_of_eq rfl) (hb hby at_344) (by decide) (by decide) rfl ?_
            rintro T967 v967 L967 X967 ⟨rfl, e967, rfl⟩
            rw [List.append_nil] at X967
            by_cases hb968_0 : (own_in w0 bw) = (0 : Int32)
            · refine E.ifY (q := 401) X967 hx (hb hby at_347) (XT.i0_eq_t hb968_0) ?_
              have mhb968_0 := (own_in_bi).1 hb968_0
              refine E.iconst (q := 402) (v := (0 : Int32)) X967 hx (hb hby at_401) rfl ?_
              exact JF0 T967 X967 e967 _ (own_nb0 (by simp [mhb964_0, mhb966_0, mhb968_0]))
            · refine E.ifN (q := 350) X967 hx (hb hby at_347) (XT.i0_eq_f hb968_0) ?_
              have mhb968_0 := (own_in_bi).2 hb968_0
              refine E.iload (q := 352) X967 hx (hb hby at_350) rfl ?_
              refine E.iload (q := 354) X967 hx (hb hby at_352) rfl ?_
              refine Ends.callS X967 hx hZ hown (hw _ (List.mem_of_getElem? (i := 51) rfl)) (hw _ (List.mem_of_getElem? (i := 52) rfl)) (hw _ (List.mem_of_getElem? (i := 2) rfl)) (hw _ (List.mem_of_getElem? (i := 53) rfl)) (by decide) (argsL := [(.int r0), (.int br)]) (rest := []) e967 (rm9 l Z a0 hw r0 br T961.heap) (W := 0) (by decide) (by decide) (by rw [hml]; rfl) (lenOf pd_4 rfl) (Nat.le_of_eq rfl) (hb hby at_354) (by decide) (by decide) rfl ?_
              rintro T969 v969 L969 X969 ⟨rfl, e969, rfl⟩
              rw [List.append_nil] at X969
              by_cases hb970_0 : (own_in r0 br) = (0 : Int32)
              · refine E.ifY (q := 401) X969 hx (hb hby at_357) (XT.i0_eq_t hb970_0) ?_
                have mhb970_0 := (own_in_bi).1 hb970_0
                refine E.iconst (q := 402) (v := (0 : Int32)) X969 hx (hb hby at_401) rfl ?_
                exact JF0 T969 X969 e969 _ (own_nb0 (by simp [mhb964_0, mhb966_0, mhb968_0, mhb970_0]))
              · refine E.ifN (q := 360) X969 hx (hb hby at_357) (XT.i0_eq_f hb970_0) ?_
                have mhb970_0 := (own_in_bi).2 hb970_0
                refine E.iload (q := 362) X969 hx (hb hby at_360) rfl ?_
                refine Ends.callS X969 hx hZ hown (hw _ (List.mem_of_getElem? (i := 72) rfl)) (hw _ (List.mem_of_getElem? (i := 73) rfl)) (hw _ (List.mem_of_getElem? (i := 2) rfl)) (hw _ (List.mem_of_getElem? (i := 74) rfl)) (by decide) (argsL := [(.int s0)]) (rest := []) e969 (rm13 l Z a0 hw s0 T961.heap) (W := 0) (by decide) (by decide) (by rw [hml]; rfl) (lenOf pd_5 rfl) (Nat.le_of_eq rfl) (hb hby at_362) (by decide) (by decide) rfl ?_
                rintro T971 v971 L971 X971 ⟨rfl, e971, rfl⟩
                rw [List.append_nil] at X971
                by_cases hb972_0 : (own_fi s0) = (0 : Int32)
                · refine E.ifY (q := 401) X971 hx (hb hby at_365) (XT.i0_eq_t hb972_0) ?_
                  have mhb972_0 := (own_fi_bd ks0).1 hb972_0
                  refine E.iconst (q := 402) (v := (0 : Int32)) X971 hx (hb hby at_401) rfl ?_
                  exact JF0 T971 X971 e971 _ (own_nb0 (by simp [mhb964_0, mhb966_0, mhb968_0, mhb970_0, mhb972_0]))
                · refine E.ifN (q := 368) X971 hx (hb hby at_365) (XT.i0_eq_f hb972_0) ?_
                  have mhb972_0 := (own_fi_bd ks0).2 hb972_0
                  refine E.iload (q := 370) X971 hx (hb hby at_368) rfl ?_
                  refine Ends.callS X971 hx hZ hown (hw _ (List.mem_of_getElem? (i := 72) rfl)) (hw _ (List.mem_of_getElem? (i := 73) rfl)) (hw _ (List.mem_of_getElem? (i := 2) rfl)) (hw _ (List.mem_of_getElem? (i := 74) rfl)) (by decide) (argsL := [(.int e0_)]) (rest := []) e971 (rm13 l Z a0 hw e0_ T961.heap) (W := 0) (by decide) (by decide) (by rw [hml]; rfl) (lenOf pd_5 rfl) (Nat.le_of_eq rfl) (hb hby at_370) (by decide) (by decide) rfl ?_
                  rintro T973 v973 L973 X973 ⟨rfl, e973, rfl⟩
                  rw [List.append_nil] at X973
                  by_cases hb974_0 : (own_fi e0_) = (0 : Int32)
                  · refine E.ifY (q := 401) X973 hx (hb hby at_373) (XT.i0_eq_t hb974_0) ?_
                    have mhb974_0 := (own_fi_bd ke0_).1 hb974_0
                    refine E.iconst (q := 402) (v := (0 : Int32)) X973 hx (hb hby at_401) rfl ?_
                    exact JF0 T973 X973 e973 _ (own_nb0 (by simp [mhb964_0, mhb966_0, mhb968_0, mhb970_0, mhb972_0, mhb974_0]))
                  · refine E.ifN (q := 376) X973 hx (hb hby at_373) (XT.i0_eq_f hb974_0) ?_
                    have mhb974_0 := (own_fi_bd ke0_).2 hb974_0
                    refine E.iload (q := 378) X973 hx (hb hby at_376) rfl ?_
                    refine E.ifN (q := 381) X973 hx (hb hby at_378) (XT.i0_eq_f (by decide)) ?_
                    refine E.iload (q := 383) X973 hx (hb hby at_381) rfl ?_
                    refine Ends.callS X973 hx hZ hown (hw _ (List.mem_of_getElem? (i := 72) rfl)) (hw _ (List.mem_of_getElem? (i := 73) rfl)) (hw _ (List.mem_of_getElem? (i := 2) rfl)) (hw _ (List.mem_of_getElem? (i := 74) rfl)) (by decide) (argsL := [(.int c0)]) (rest := []) e973 (rm13 l Z a0 hw c0 T961.heap) (W := 0) (by decide) (by decide) (by rw [hml]; rfl) (lenOf pd_5 rfl) (Nat.le_of_eq rfl) (hb hby at_383) (by decide) (by decide) rfl ?_
                    rintro T975 v975 L975 X975 ⟨rfl, e975, rfl⟩
                    rw [List.append_nil] at X975
                    by_cases hb976_0 : (own_fi c0) = (0 : Int32)
                    · refine E.ifY (q := 401) X975 hx (hb hby at_386) (XT.i0_eq_t hb976_0) ?_
                      have mhb976_0 := (own_fi_bd kc0).1 hb976_0
                      refine E.iconst (q := 402) (v := (0 : Int32)) X975 hx (hb hby at_401) rfl ?_
                      exact JF0 T975 X975 e975 _ (own_nb0 (by simp [mhb964_0, mhb966_0, mhb968_0, mhb970_0, mhb972_0, mhb974_0, mhb976_0]))
                    · refine E.ifN (q := 389) X975 hx (hb hby at_386) (XT.i0_eq_f hb976_0) ?_
                      have mhb976_0 := (own_fi_bd kc0).2 hb976_0
                      refine E.iload (q := 391) X975 hx (hb hby at_389) rfl ?_
                      refine Ends.callS X975 hx hZ hown (hw _ (List.mem_of_getElem? (i := 72) rfl)) (hw _ (List.mem_of_getElem? (i := 73) rfl)) (hw _ (List.mem_of_getElem? (i := 2) rfl)) (hw _ (List.mem_of_getElem? (i := 74) rfl)) (by decide) (argsL := [(.int d0)]) (rest := []) e975 (rm13 l Z a0 hw d0 T961.heap) (W := 0) (by decide) (by decide) (by rw [hml]; rfl) (lenOf pd_5 rfl) (Nat.le_of_eq rfl) (hb hby at_391) (by decide) (by decide) rfl ?_
                      rintro T977 v977 L977 X977 ⟨rfl, e977, rfl⟩
                      rw [List.append_nil] at X977
                      by_cases hb978_0 : (own_fi d0) = (0 : Int32)
                      · refine E.ifY (q := 401) X977 hx (hb hby at_394) (XT.i0_eq_t hb978_0) ?_
                        have mhb978_0 := (own_fi_bd kd0).1 hb978_0
                        refine E.iconst (q := 402) (v := (0 : Int32)) X977 hx (hb hby at_401) rfl ?_
                        exact JF0 T977 X977 e977 _ (own_nb0 (by simp [mhb964_0, mhb966_0, mhb968_0, mhb970_0, mhb972_0, mhb974_0, mhb976_0, mhb978_0]))
                      · refine E.ifN (q := 397) X977 hx (hb hby at_394) (XT.i0_eq_f hb978_0) ?_
                        have mhb978_0 := (own_fi_bd kd0).2 hb978_0
                        refine E.iconst (q := 398) (v := (1 : Int32)) X977 hx (hb hby at_397) rfl ?_
                        refine E.goto (q := 402) X977 hx (hb hby at_398) ?_
                        exact JF0 T977 X977 e977 _ (own_nb1 (by simp [mhb964_0, mhb966_0, mhb968_0, mhb970_0, mhb972_0, mhb974_0, mhb976_0, mhb978_0]))
  by_cases hcl4 : (ct &&& (4 : Int32)) = (0 : Int32)
  · refine E.ifY (q := 47) X643 hx (hb hby at_40) (XT.i0_eq_t hcl4) ?_
    refine E.iconst (q := 48) (v := (0 : Int32)) X643 hx (hb hby at_47) rfl ?_
    exact JC _ (Or.inl rfl)
  · refine E.ifN (q := 43) X643 hx (hb hby at_40) (XT.i0_eq_f hcl4) ?_
    refine E.iconst (q := 44) (v := (1 : Int32)) X643 hx (hb hby at_43) rfl ?_
    refine E.goto (q := 48) X643 hx (hb hby at_44) ?_
    exact JC _ (Or.inr rfl)
set_option maxRecDepth 65536 in
set_option maxHeartbeats 40000000 in
theorem comes_1 {Post : Tables → Env → Array Value → State → Outcome → State → Prop} (hpost : ∀ tb e args s v u, (limb_1_1.after args s (.returned v) u = true ∧ limb_1_2.after args s (.returned v) u = true) → FrameEnd s (.returned v) u (Jvm.fieldLocs frame_1_writes args s ++ Jvm.arrayLocs frame_1_arrays args s ++ Jvm.staticLocs frame_1_statics s) 32 192 → Post tb e args s (.returned v) u) :
    ArmFor flags0 classFile x code maxLocals ret World_1 tables_1 room_1 Calls_1 rest_1 Pre_1 Post := by
  intro l hfl _ _ p e ha hc hk s m args below hf hA hF happ hP
  obtain ⟨hcalls, hrest, hpre⟩ := hP
  obtain ⟨-, -, -, hnamed, -, -, -, hat⟩ := (Spec.applies_iff hf).mp happ
  obtain ⟨hg, hn⟩ := and_e (Cond.before_iff.mp (show (Jvm.Cond.and given_1 narrow_1).before args s = true from hpre))
  obtain ⟨g0, hg⟩ := and_e hg
  obtain ⟨ga0, hg⟩ := and_e hg
  obtain ⟨ga1, hg⟩ := and_e hg
  obtain ⟨ga2, hg⟩ := and_e hg
  obtain ⟨ga3, hg⟩ := and_e hg
  obtain ⟨ga4, hg⟩ := and_e hg
  obtain ⟨w0, w1, w2, w3, w4, w5, rfl⟩ : ∃ w0 w1 w2 w3 w4 w5 : Value, args = #[w0, w1, w2, w3, w4, w5] := by
    have hs : args.size = 6 := by simpa [Cond.value, given_1] using g0
    obtain ⟨L⟩ := args
    match L, hs with
    | [w0, w1, w2, w3, w4, w5], _ => exact ⟨w0, w1, w2, w3, w4, w5, rfl⟩
  have hw := fun d (hd : d ∈ tables_1) => atoms_spec (ws := Jvm.Cond.code x code maxLocals ret :: tables_1) hat d (List.mem_cons_of_mem _ hd)
  have hn0 := hn
  obtain ⟨i0, ei0⟩ := isL_v ga0
  obtain rfl : w0 = (.long i0) := Option.some.inj ei0
  obtain ⟨i1, ei1⟩ := isL_v ga1
  obtain rfl : w1 = (.long i1) := Option.some.inj ei1
  obtain ⟨i2, ei2⟩ := isL_v ga2
  obtain rfl : w2 = (.long i2) := Option.some.inj ei2
  obtain ⟨i3, ei3⟩ := isL_v ga3
  obtain rfl : w3 = (.long i3) := Option.some.inj ei3
  obtain ⟨i4, ei4⟩ := isL_v ga4
  obtain rfl : w4 = (.long i4) := Option.some.inj ei4
  obtain ⟨i5, ei5⟩ := isL_v hg
  obtain rfl : w5 = (.long i5) := Option.some.inj ei5
  obtain ⟨n, o, h1, h2, h3, _, L, rfl, ⟨rfl, N⟩, hq⟩ := rm0 l s _ hw i0 i1 i2 i3 i4 i5 s.heap (own_sta hn0 hw) p e ha hc hk s m _ below hf ((Spec.applies_iff_loose hf).mp happ).1 ⟨rfl, State.Warmed39.refl s, rfl⟩ trivial
  exact ⟨n, _, h1, h2, h3, hpost _ _ _ _ _ _ ⟨Cond.after_iff.mpr rfl, Cond.after_iff.mpr (eq_i res_at (Term.int_eval (1)) rfl)⟩ ⟨hq.1, hq.2.1, (hq.2.2.sift fun y hy => Or.inr (N y hy)).mono (by decide) (by decide)⟩⟩
theorem main_1_1 : Claimed_1_1 := comes_1 fun _ _ _ _ _ _ h hF => ⟨h.1, hF⟩
theorem main_1_2 : Claimed_1_2 := comes_1 fun _ _ _ _ _ _ h hF => ⟨h.2, hF⟩
end Jvm.Pilot.@@N@@
namespace Jvm.Pilot.@@N@@
open Jvm Jvm.ClassFile Sem Op Lib Jvm.Free Jvm.Stand Jvm.Pilot.@@N@@.Jvm.D
/-! MADE BY PROGRAM (witnessworld.py) out of the Statement's table words and the real class files: 9 classes; the members and pool entries that the words name. The judged class is class 1, her method 6. -/
namespace start1
open Jvm.ClassFile
def u (s : String) : CpInfo := .utf8 (stringToUtf16 s)
/-- a pool by its gaps: so many unusable entries, then the entry; so many at the end -/
def gap : Nat → List CpInfo → List CpInfo
  | 0, r => r
  | n + 1, r => .unusable :: gap n r
def poolList (es : List (Nat × CpInfo)) (last : Nat) : List CpInfo := es.foldr (fun e r => gap e.1 (e.2 :: r)) (gap last [])
def pool (es : List (Nat × CpInfo)) (last : Nat) : Array CpInfo := ⟨poolList es last⟩
def fileOf (pool : Array CpInfo) (this : Nat) (attrs : Array Attribute := #[]) (ms : Array MethodInfo := #[]) (fl : Nat := 33) (sup : Nat := 0) (ifs : Array Nat := #[]) (fds : Array FieldInfo := #[]) : ClassFile where
  minorVersion := 0
  majorVersion := 65
  constantPool := pool
  accessFlags := fl
  thisClass := this
  superClass := sup
  interfaces := ifs
  fields := fds
  methods := ms
  attributes := attrs
def plain (name : String) (sup : Option ClassId) : Class where
  name := name
  kind := .ordinary
  loader := none
  accessFlags := 33
  super := sup
  interfaces := #[]
  cf := none
  fields := #[]
  methods := #[]
  instanceTypes := #[]
  staticTypes := #[]
  resolved := #[]
  callSites := []
  init := .initialized
  statics := none
  mirror := none

def pool0 : Array CpInfo := pool [(5, u "<init>"), (0, u "()V"), (1, .class_ 10), (1, u "java/lang/Object")] 113

def k0c0 : Code := { maxStack := 0, maxLocals := 1, code := object_method_1_code, exceptionTable := #[], attributes := #[] }
def k0m0 : Method := { name := "<init>", desc := "()V", sig := { parameters := [], returnType := none }, accessFlags := 1, code := some k0c0 }
/-- java/lang/Object -/
def k0 : Class := { plain "java/lang/Object" none with
  accessFlags := 33
  interfaces := #[]
  cf := some (fileOf pool0 8 #[] #[{ accessFlags := 1, nameIndex := 5, descriptorIndex := 6, attributes := #[] }] 33 0 #[] #[])
  fields := #[]
  methods := #[k0m0]
  instanceTypes := #[]
  staticTypes := #[]
  resolved := Array.replicate 124 none
  statics := none }

def pool1 : Array CpInfo := pool [(2, .class_ 4), (1, u "java/lang/Object"), (0, u "<init>"), (0, u "()V"), (0, .double 13830554455654793216), (1, .double 9218868437227405311), (1, .double 18442240474082181119), (1, .double 9218868437227405312), (1, .double 18442240474082181120), (1, .double 9223372036854775808), (1, .methodref 20 21), (0, .class_ 22), (0, .nameAndType 23 24), (0, u "com/example/hourline/hourline/network/EdgeValuesFirstUnfitPinLaw"), (0, u "lo"), (0, u "(J)I"), (0, .methodref 20 26), (0, .nameAndType 27 24), (0, u "hi"), (0, .class_ 29), (0, u "com/example/hourline/hourline/network/EdgeValues"), (0, .methodref 28 31), (0, .nameAndType 5 32), (0, u "(IZ)V"), (0, .methodref 20 34), (0, .nameAndType 35 36), (0, u "m"), (0, u "(I)D"), (0, .methodref 28 38), (0, .nameAndType 39 40), (0, u "add"), (0, u "(IIIIDD)I"), (0, .methodref 28 42), (0, .nameAndType 43 44), (0, u "rise"), (0, u "(IDD)V"), (0, .methodref 20 46), (0, .nameAndType 47 48), (0, u "in"), (0, u "(II)Z"), (0, .methodref 20 50), (0, .nameAndType 51 52), (0, u "finite"), (0, u "(I)Z"), (0, .methodref 28 54), (0, .nameAndType 55 56), (0, u "firstUnfit"), (0, u "([I)I"), (0, .methodref 28 58), (0, .nameAndType 59 60), (0, u "size"), (0, u "()I"), (3, u "law"), (0, u "(JJJJJJ)Z")] 4

def k1m0 : Method := { name := "<init>", desc := "()V", sig := { parameters := [], returnType := none }, accessFlags := 1, code := none }
def k1c1 : Code := { maxStack := 2, maxLocals := 1, code := method_2_code, exceptionTable := #[], attributes := #[] }
def k1m1 : Method := { name := "m", desc := "(I)D", sig := { parameters := [.int], returnType := some .double }, accessFlags := 10, code := some k1c1 }
def k1c2 : Code := { maxStack := 2, maxLocals := 1, code := method_3_code, exceptionTable := #[], attributes := #[] }
def k1m2 : Method := { name := "finite", desc := "(I)Z", sig := { parameters := [.int], returnType := some .boolean }, accessFlags := 10, code := some k1c2 }
def k1c3 : Code := { maxStack := 2, maxLocals := 2, code := method_4_code, exceptionTable := #[], attributes := #[] }
def k1m3 : Method := { name := "in", desc := "(II)Z", sig := { parameters := [.int, .int], returnType := some .boolean }, accessFlags := 10, code := some k1c3 }
def k1c4 : Code := { maxStack := 2, maxLocals := 2, code := method_5_code, exceptionTable := #[], attributes := #[] }
def k1m4 : Method := { name := "lo", desc := "(J)I", sig := { parameters := [.long], returnType := some .int }, accessFlags := 10, code := some k1c4 }
def k1c5 : Code := { maxStack := 3, maxLocals := 2, code := method_6_code, exceptionTable := #[], attributes := #[] }
def k1m5 : Method := { name := "hi", desc := "(J)I", sig := { parameters := [.long], returnType := some .int }, accessFlags := 10, code := some k1c5 }
def k1c6 : Code := { maxStack := 9, maxLocals := 39, code := code, exceptionTable := #[], attributes := #[] }
def k1m6 : Method := { name := "law", desc := "(JJJJJJ)Z", sig := { parameters := [.long, .long, .long, .long, .long, .long], returnType := some .boolean }, accessFlags := 9, code := some k1c6 }
/-- com/example/hourline/hourline/network/EdgeValuesFirstUnfitPinLaw -/
def k1 : Class := { plain "com/example/hourline/hourline/network/EdgeValuesFirstUnfitPinLaw" (some 0) with
  accessFlags := 49
  interfaces := #[]
  cf := some (fileOf pool1 20 #[] #[{ accessFlags := 1, nameIndex := 5, descriptorIndex := 6, attributes := #[] }, { accessFlags := 10, nameIndex := 35, descriptorIndex := 36, attributes := #[] }, { accessFlags := 10, nameIndex := 51, descriptorIndex := 52, attributes := #[] }, { accessFlags := 10, nameIndex := 47, descriptorIndex := 48, attributes := #[] }, { accessFlags := 10, nameIndex := 23, descriptorIndex := 24, attributes := #[] }, { accessFlags := 10, nameIndex := 27, descriptorIndex := 24, attributes := #[] }, { accessFlags := 9, nameIndex := 64, descriptorIndex := 65, attributes := #[] }] 49 2 #[] #[])
  fields := #[]
  methods := #[k1m0, k1m1, k1m2, k1m3, k1m4, k1m5, k1m6]
  instanceTypes := #[]
  staticTypes := #[]
  resolved := Array.replicate 70 none
  statics := none }

def pool2 : Array CpInfo := pool [(1, .class_ 2), (0, u "com/example/hourline/hourline/network/EdgeValues"), (2, u "<init>"), (0, u "(IZ)V"), (0, .fieldref 1 8), (0, .nameAndType 9 10), (0, u "NUMBERS"), (0, u "I"), (0, .class_ 12), (0, u "[I"), (0, .class_ 14), (0, u "[D"), (0, .methodref 1 16), (0, .nameAndType 5 17), (0, u "([[I[[DI)V"), (0, .fieldref 1 19), (0, .nameAndType 20 21), (0, u "numbers"), (0, u "[[I"), (0, .fieldref 1 23), (0, .nameAndType 24 25), (0, u "measures"), (0, u "[[D"), (0, .methodref 27 28), (0, .class_ 29), (0, .nameAndType 5 30), (0, u "java/lang/Object"), (0, u "()V"), (0, .fieldref 1 32), (0, .nameAndType 33 10), (0, u "size"), (4, .methodref 1 39), (0, .nameAndType 40 41), (0, u "place"), (0, u "(IIIDD)V"), (15, u "add"), (3, u "NUMBERED"), (0, u "[Lcom/example/hourline/hourline/network/EdgeValues$Numbered;"), (1, .class_ 66), (1, u "com/example/hourline/hourline/network/EdgeValues$Numbered"), (11, u "()I"), (0, .double 18442240474082181119), (1, .double 9218868437227405311), (39, u "WAY"), (2, u "RULES"), (0, u "FROM"), (2, u "TO"), (3, u "START"), (0, u "END"), (0, u "CLIMB"), (0, u "DESCENT"), (0, u "MEASURES"), (1, u "FLAT_MEASURES"), (15, u "(IIIIDD)I"), (0, u "rise"), (0, u "(IDD)V"), (27, u "firstUnfit"), (0, u "([I)I")] 12

def k2c0 : Code := { maxStack := 4, maxLocals := 4, code := prog_101_method_2_code, exceptionTable := #[], attributes := #[] }
def k2m0 : Method := { name := "<init>", desc := "(IZ)V", sig := { parameters := [.int, .boolean], returnType := none }, accessFlags := 0, code := some k2c0 }
def k2c1 : Code := { maxStack := 2, maxLocals := 4, code := prog_101_method_3_code, exceptionTable := #[], attributes := #[] }
def k2m1 : Method := { name := "<init>", desc := "([[I[[DI)V", sig := { parameters := [(.array (.array .int)), (.array (.array .double)), .int], returnType := none }, accessFlags := 2, code := some k2c1 }
def k2c2 : Code := { maxStack := 1, maxLocals := 1, code := prog_101_method_4_code, exceptionTable := #[], attributes := #[] }
def k2m2 : Method := { name := "size", desc := "()I", sig := { parameters := [], returnType := some .int }, accessFlags := 0, code := some k2c2 }
def k2c3 : Code := { maxStack := 8, maxLocals := 9, code := prog_101_method_14_code, exceptionTable := #[], attributes := #[] }
def k2m3 : Method := { name := "add", desc := "(IIIIDD)I", sig := { parameters := [.int, .int, .int, .int, .double, .double], returnType := some .int }, accessFlags := 0, code := some k2c3 }
def k2c4 : Code := { maxStack := 4, maxLocals := 8, code := prog_101_method_16_code, exceptionTable := #[], attributes := #[] }
def k2m4 : Method := { name := "place", desc := "(IIIDD)V", sig := { parameters := [.int, .int, .int, .double, .double], returnType := none }, accessFlags := 0, code := some k2c4 }
def k2c5 : Code := { maxStack := 4, maxLocals := 6, code := prog_101_method_17_code, exceptionTable := #[], attributes := #[] }
def k2m5 : Method := { name := "rise", desc := "(IDD)V", sig := { parameters := [.int, .double, .double], returnType := none }, accessFlags := 0, code := some k2c5 }
def k2c6 : Code := { maxStack := 4, maxLocals := 8, code := prog_101_method_33_code, exceptionTable := #[], attributes := #[] }
def k2m6 : Method := { name := "firstUnfit", desc := "([I)I", sig := { parameters := [(.array .int)], returnType := some .int }, accessFlags := 0, code := some k2c6 }
/-- com/example/hourline/hourline/network/EdgeValues -/
def k2 : Class := { plain "com/example/hourline/hourline/network/EdgeValues" (some 0) with
  accessFlags := 48
  interfaces := #[]
  cf := some (fileOf pool2 1 #[.nestMembers #[64]] #[{ accessFlags := 0, nameIndex := 5, descriptorIndex := 6, attributes := #[] }, { accessFlags := 2, nameIndex := 5, descriptorIndex := 17, attributes := #[] }, { accessFlags := 0, nameIndex := 33, descriptorIndex := 78, attributes := #[] }, { accessFlags := 0, nameIndex := 57, descriptorIndex := 154, attributes := #[] }, { accessFlags := 0, nameIndex := 40, descriptorIndex := 41, attributes := #[] }, { accessFlags := 0, nameIndex := 155, descriptorIndex := 156, attributes := #[] }, { accessFlags := 0, nameIndex := 184, descriptorIndex := 185, attributes := #[] }] 48 27 #[] #[{ accessFlags := 26, nameIndex := 125, descriptorIndex := 10, attributes := #[] }, { accessFlags := 26, nameIndex := 128, descriptorIndex := 10, attributes := #[] }, { accessFlags := 26, nameIndex := 121, descriptorIndex := 10, attributes := #[] }, { accessFlags := 26, nameIndex := 124, descriptorIndex := 10, attributes := #[] }, { accessFlags := 26, nameIndex := 61, descriptorIndex := 62, attributes := #[] }, { accessFlags := 24, nameIndex := 9, descriptorIndex := 10, attributes := #[] }, { accessFlags := 26, nameIndex := 132, descriptorIndex := 10, attributes := #[] }, { accessFlags := 26, nameIndex := 133, descriptorIndex := 10, attributes := #[] }, { accessFlags := 26, nameIndex := 134, descriptorIndex := 10, attributes := #[] }, { accessFlags := 26, nameIndex := 135, descriptorIndex := 10, attributes := #[] }, { accessFlags := 24, nameIndex := 136, descriptorIndex := 10, attributes := #[] }, { accessFlags := 26, nameIndex := 138, descriptorIndex := 10, attributes := #[] }, { accessFlags := 18, nameIndex := 20, descriptorIndex := 21, attributes := #[] }, { accessFlags := 18, nameIndex := 24, descriptorIndex := 25, attributes := #[] }, { accessFlags := 2, nameIndex := 33, descriptorIndex := 10, attributes := #[] }])
  fields := #[{ name := "FROM", type := .int, accessFlags := 26, slot := 0, constantValue := 0 }, { name := "TO", type := .int, accessFlags := 26, slot := 1, constantValue := 0 }, { name := "WAY", type := .int, accessFlags := 26, slot := 2, constantValue := 0 }, { name := "RULES", type := .int, accessFlags := 26, slot := 3, constantValue := 0 }, { name := "NUMBERED", type := (.array (.object "com/example/hourline/hourline/network/EdgeValues$Numbered")), accessFlags := 26, slot := 4, constantValue := 0 }, { name := "NUMBERS", type := .int, accessFlags := 24, slot := 5, constantValue := 0 }, { name := "START", type := .int, accessFlags := 26, slot := 6, constantValue := 0 }, { name := "END", type := .int, accessFlags := 26, slot := 7, constantValue := 0 }, { name := "CLIMB", type := .int, accessFlags := 26, slot := 8, constantValue := 0 }, { name := "DESCENT", type := .int, accessFlags := 26, slot := 9, constantValue := 0 }, { name := "MEASURES", type := .int, accessFlags := 24, slot := 10, constantValue := 0 }, { name := "FLAT_MEASURES", type := .int, accessFlags := 26, slot := 11, constantValue := 0 }, { name := "numbers", type := (.array (.array .int)), accessFlags := 18, slot := 0, constantValue := 0 }, { name := "measures", type := (.array (.array .double)), accessFlags := 18, slot := 1, constantValue := 0 }, { name := "size", type := .int, accessFlags := 2, slot := 2, constantValue := 0 }]
  methods := #[k2m0, k2m1, k2m2, k2m3, k2m4, k2m5, k2m6]
  instanceTypes := #[(.array (.array .int)), (.array (.array .double)), .int]
  staticTypes := #[.int, .int, .int, .int, (.array (.object "com/example/hourline/hourline/network/EdgeValues$Numbered")), .int, .int, .int, .int, .int, .int, .int]
  resolved := Array.replicate 198 none
  statics := some 0 }

def pool3 : Array CpInfo := pool [(1, u "java/lang/Cloneable"), (0, .class_ 1), (0, u "java/lang/Object"), (0, .class_ 3)] 3

/-- java/lang/Cloneable -/
def k3 : Class := { plain "java/lang/Cloneable" (some 0) with
  accessFlags := 1537
  interfaces := #[]
  cf := some (fileOf pool3 2 #[] #[] 1537 4 #[] #[])
  fields := #[]
  methods := #[]
  instanceTypes := #[]
  staticTypes := #[]
  resolved := Array.replicate 8 none
  statics := none }

def pool4 : Array CpInfo := pool [(1, u "java/io/Serializable"), (0, .class_ 1), (0, u "java/lang/Object"), (0, .class_ 3)] 3

/-- java/io/Serializable -/
def k4 : Class := { plain "java/io/Serializable" (some 0) with
  accessFlags := 1537
  interfaces := #[]
  cf := some (fileOf pool4 2 #[] #[] 1537 4 #[] #[])
  fields := #[]
  methods := #[]
  instanceTypes := #[]
  staticTypes := #[]
  resolved := Array.replicate 8 none
  statics := none }

/-- the primitive byte -/
def k5 : Class := { plain "byte" none with kind := .primitive 'B', accessFlags := 0x411 }
/-- [B -/
def k6 : Class := { plain "[B" (some 0) with kind := .array 5 .byte, interfaces := #[3, 4], accessFlags := 1041 }

/-- the primitive int -/
def k7 : Class := { plain "int" none with kind := .primitive 'I', accessFlags := 0x411 }
/-- [I -/
def k8 : Class := { plain "[I" (some 0) with kind := .array 7 .int, interfaces := #[3, 4], accessFlags := 1041 }

def heap : Heap := #[{ cls := 2, slots := #[.int 0, .int 0, .int 0, .int 0, .null, .int 4, .int 0, .int 0, .int 0, .int 0, .int 0, .int 0], vm := .statics 2 }]
def kE0 : Class := { plain "double" none with kind := .primitive 'D', interfaces := #[], accessFlags := 0x411 }
def kE1 : Class := { plain "[D" (some 0) with kind := .array 9 .double, interfaces := #[3, 4], accessFlags := 1041 }
def kE2 : Class := { plain "[[I" (some 0) with kind := .array 8 (.array .int), interfaces := #[3, 4], accessFlags := 1041 }
def kE3 : Class := { plain "[[D" (some 0) with kind := .array 10 (.array .double), interfaces := #[3, 4], accessFlags := 1041 }
def classes : Array Class := #[k0, k1, k2, k3, k4, k5, k6, k7, k8, kE0, kE1, kE2, kE3]
def interned : List (Array UInt16 × Addr) := []
def slotsUsed : Nat := 12
def theMethod : MethodId := ⟨1, 6⟩
def args0 : Array Value := #[.long 5, .long 2, .long 7, .long 1, .long 3, .long 4]
def aboutOver (below : List Frame) : State where
  vm := { classes := classes, interned := interned.toArray }
  heap := heap
  slotsUsed := slotsUsed
  threads := #[{ frames := .invoking theMethod args0 :: below }]
def below0 : List Frame := [.native { method := ⟨0, 0⟩, args := #[] }]
def about1 : State := aboutOver below0
def p0 : Program := .bare "" "" ""
def e0 : Env := launch0.env 0 0 0
theorem w_frames : about1.frames = Frame.invoking theMethod args0 :: below0 := rfl
set_option maxRecDepth 65536 in
theorem w_args : argsFit about1.vm theMethod args0 = true := by decide +kernel
set_option maxRecDepth 65536 in
theorem w_heap : heapFits about1 = true := by decide +kernel
set_option maxRecDepth 65536 in
theorem w_runnable : about1.curStatus? = some .runnable := by decide +kernel
set_option maxRecDepth 65536 in
theorem w_alone : about1.alone = true := by decide +kernel
set_option maxRecDepth 65536 in
theorem w_named : about1.methodNamed? x = some theMethod := by decide +kernel
set_option maxRecDepth 65536 in
theorem w_hears : about1.hears theMethod below0 = true := by decide +kernel
set_option maxRecDepth 65536 in
theorem w_ripe : about1.ripe theMethod args0 below0 = true := by decide +kernel
theorem w_running : about1.status = .running := rfl
set_option maxRecDepth 65536 in
theorem w_room : about1.hasRoom e0.platform room_1 = true :=
  launch0.hasRoom_least _ room_1 (by decide +kernel) (by decide +kernel) (by decide +kernel) (by decide +kernel) (by decide +kernel) (by decide +kernel)
theorem allAtoms_all (ts : List Jvm.Cond) (a : Array Jvm.Value) (st : Jvm.State) : (allAtoms ts).before a st = ts.all (fun c => c.before a st) := by
  induction ts with
  | nil => rfl
  | cons c t ih =>
    show (Jvm.Cond.and c (allAtoms t)).before a st = _
    rw [Jvm.Cond.before_and, ih, List.all_cons]
def words1 : List Jvm.Cond := Jvm.Cond.code x code maxLocals ret :: tables_1
/-- a 'code' word, met by the world's own term for the bytes: nothing is compared byte by byte -/
theorem code_word {y : MethodName} {bytes : ByteArray} {mx : Nat} {rt : Option FieldType} {a : Array Value} {s : State} {m : MethodId} {meth : Method} {c : Code} (h1 : s.methodNamed? y = some m) (h2 : s.vm.method? m = some meth) (h3 : meth.code = some c) (h4 : c.code = bytes)
    (h5 : (c.maxLocals == mx && c.exceptionTable.isEmpty && decide (c.maxStack ≤ mostOperands) && decide (meth.sig.returnType = rt) && !meth.locks && decide (parseMethodDescriptor y.desc = some meth.sig)) = true) : (Jvm.Cond.code y bytes mx rt).before a s = true := by
  simp only [Bool.and_eq_true, beq_iff_eq, Bool.not_eq_true', decide_eq_true_eq] at h5
  obtain ⟨⟨⟨⟨⟨g1, g2⟩, g3⟩, g4⟩, g5⟩, g6⟩ := h5
  simp [Cond.before, Cond.holds, Cond.value, h1, h2, h3, h4, g1, g2, g3, g4, g5, g6]
def isCode : Jvm.Cond → Bool
  | .code _ _ _ _ => true
  | _ => false
theorem all_split {L : List Jvm.Cond} {P : Jvm.Cond → Bool} (h1 : L.all (fun c => isCode c || P c) = true) (h2 : ∀ c ∈ L.filter isCode, P c = true) : L.all P = true := by
  refine List.all_eq_true.mpr fun c hc => ?_
  have h := List.all_eq_true.mp h1 c hc
  rcases Bool.eq_false_or_eq_true (isCode c) with hi | hi
  · exact h2 c (List.mem_filter.mpr ⟨hc, hi⟩)
  · simpa [hi] using h
set_option maxRecDepth 65536 in
theorem w_c0 : (Jvm.Cond.code x code maxLocals ret).before args0 about1 = true := code_word (m := ⟨1, 6⟩) (meth := k1m6) (c := k1c6) (by decide +kernel) rfl rfl rfl (by decide +kernel)
set_option maxRecDepth 65536 in
theorem w_c1 : (Jvm.Cond.code ({ cls := "com/example/hourline/hourline/network/EdgeValuesFirstUnfitPinLaw", name := "lo", desc := "(J)I" } : Jvm.MethodName) method_5_code (2 : Nat) (Option.some Jvm.ClassFile.FieldType.int)).before args0 about1 = true := code_word (m := ⟨1, 4⟩) (meth := k1m4) (c := k1c4) (by decide +kernel) rfl rfl rfl (by decide +kernel)
set_option maxRecDepth 65536 in
theorem w_c2 : (Jvm.Cond.code ({ cls := "com/example/hourline/hourline/network/EdgeValuesFirstUnfitPinLaw", name := "hi", desc := "(J)I" } : Jvm.MethodName) method_6_code (2 : Nat) (Option.some Jvm.ClassFile.FieldType.int)).before args0 about1 = true := code_word (m := ⟨1, 5⟩) (meth := k1m5) (c := k1c5) (by decide +kernel) rfl rfl rfl (by decide +kernel)
set_option maxRecDepth 65536 in
theorem w_c3 : (Jvm.Cond.code ({ cls := "com/example/hourline/hourline/network/EdgeValues", name := "<init>", desc := "(IZ)V" } : Jvm.MethodName) prog_101_method_2_code (4 : Nat) (Option.none : Option Jvm.ClassFile.FieldType)).before args0 about1 = true := code_word (m := ⟨2, 0⟩) (meth := k2m0) (c := k2c0) (by decide +kernel) rfl rfl rfl (by decide +kernel)
set_option maxRecDepth 65536 in
theorem w_c4 : (Jvm.Cond.code ({ cls := "com/example/hourline/hourline/network/EdgeValues", name := "<init>", desc := "([[I[[DI)V" } : Jvm.MethodName) prog_101_method_3_code (4 : Nat) (Option.none : Option Jvm.ClassFile.FieldType)).before args0 about1 = true := code_word (m := ⟨2, 1⟩) (meth := k2m1) (c := k2c1) (by decide +kernel) rfl rfl rfl (by decide +kernel)
set_option maxRecDepth 65536 in
theorem w_c5 : (Jvm.Cond.code ({ cls := "java/lang/Object", name := "<init>", desc := "()V" } : Jvm.MethodName) object_method_1_code (1 : Nat) (Option.none : Option Jvm.ClassFile.FieldType)).before args0 about1 = true := code_word (m := ⟨0, 0⟩) (meth := k0m0) (c := k0c0) (by decide +kernel) rfl rfl rfl (by decide +kernel)
set_option maxRecDepth 65536 in
theorem w_c6 : (Jvm.Cond.code ({ cls := "com/example/hourline/hourline/network/EdgeValuesFirstUnfitPinLaw", name := "m", desc := "(I)D" } : Jvm.MethodName) method_2_code (1 : Nat) (Option.some Jvm.ClassFile.FieldType.double)).before args0 about1 = true := code_word (m := ⟨1, 1⟩) (meth := k1m1) (c := k1c1) (by decide +kernel) rfl rfl rfl (by decide +kernel)
set_option maxRecDepth 65536 in
theorem w_c7 : (Jvm.Cond.code ({ cls := "com/example/hourline/hourline/network/EdgeValues", name := "add", desc := "(IIIIDD)I" } : Jvm.MethodName) prog_101_method_14_code (9 : Nat) (Option.some Jvm.ClassFile.FieldType.int)).before args0 about1 = true := code_word (m := ⟨2, 3⟩) (meth := k2m3) (c := k2c3) (by decide +kernel) rfl rfl rfl (by decide +kernel)
set_option maxRecDepth 65536 in
theorem w_c8 : (Jvm.Cond.code ({ cls := "com/example/hourline/hourline/network/EdgeValues", name := "place", desc := "(IIIDD)V" } : Jvm.MethodName) prog_101_method_16_code (8 : Nat) (Option.none : Option Jvm.ClassFile.FieldType)).before args0 about1 = true := code_word (m := ⟨2, 4⟩) (meth := k2m4) (c := k2c4) (by decide +kernel) rfl rfl rfl (by decide +kernel)
set_option maxRecDepth 65536 in
theorem w_c9 : (Jvm.Cond.code ({ cls := "com/example/hourline/hourline/network/EdgeValuesFirstUnfitPinLaw", name := "in", desc := "(II)Z" } : Jvm.MethodName) method_4_code (2 : Nat) (Option.some Jvm.ClassFile.FieldType.boolean)).before args0 about1 = true := code_word (m := ⟨1, 3⟩) (meth := k1m3) (c := k1c3) (by decide +kernel) rfl rfl rfl (by decide +kernel)
set_option maxRecDepth 65536 in
theorem w_c10 : (Jvm.Cond.code ({ cls := "com/example/hourline/hourline/network/EdgeValues", name := "firstUnfit", desc := "([I)I" } : Jvm.MethodName) prog_101_method_33_code (8 : Nat) (Option.some Jvm.ClassFile.FieldType.int)).before args0 about1 = true := code_word (m := ⟨2, 6⟩) (meth := k2m6) (c := k2c6) (by decide +kernel) rfl rfl rfl (by decide +kernel)
set_option maxRecDepth 65536 in
theorem w_c11 : (Jvm.Cond.code ({ cls := "com/example/hourline/hourline/network/EdgeValues", name := "size", desc := "()I" } : Jvm.MethodName) prog_101_method_4_code (1 : Nat) (Option.some Jvm.ClassFile.FieldType.int)).before args0 about1 = true := code_word (m := ⟨2, 2⟩) (meth := k2m2) (c := k2c2) (by decide +kernel) rfl rfl rfl (by decide +kernel)
set_option maxRecDepth 65536 in
theorem w_c12 : (Jvm.Cond.code ({ cls := "com/example/hourline/hourline/network/EdgeValues", name := "rise", desc := "(IDD)V" } : Jvm.MethodName) prog_101_method_17_code (6 : Nat) (Option.none : Option Jvm.ClassFile.FieldType)).before args0 about1 = true := code_word (m := ⟨2, 5⟩) (meth := k2m5) (c := k2c5) (by decide +kernel) rfl rfl rfl (by decide +kernel)
set_option maxRecDepth 65536 in
theorem w_c13 : (Jvm.Cond.code ({ cls := "com/example/hourline/hourline/network/EdgeValuesFirstUnfitPinLaw", name := "finite", desc := "(I)Z" } : Jvm.MethodName) method_3_code (1 : Nat) (Option.some Jvm.ClassFile.FieldType.boolean)).before args0 about1 = true := code_word (m := ⟨1, 2⟩) (meth := k1m2) (c := k1c2) (by decide +kernel) rfl rfl rfl (by decide +kernel)
def codes1 : List Jvm.Cond := [Jvm.Cond.code x code maxLocals ret, Jvm.Cond.code ({ cls := "com/example/hourline/hourline/network/EdgeValuesFirstUnfitPinLaw", name := "lo", desc := "(J)I" } : Jvm.MethodName) method_5_code (2 : Nat) (Option.some Jvm.ClassFile.FieldType.int), Jvm.Cond.code ({ cls := "com/example/hourline/hourline/network/EdgeValuesFirstUnfitPinLaw", name := "hi", desc := "(J)I" } : Jvm.MethodName) method_6_code (2 : Nat) (Option.some Jvm.ClassFile.FieldType.int), Jvm.Cond.code ({ cls := "com/example/hourline/hourline/network/EdgeValues", name := "<init>", desc := "(IZ)V" } : Jvm.MethodName) prog_101_method_2_code (4 : Nat) (Option.none : Option Jvm.ClassFile.FieldType), Jvm.Cond.code ({ cls := "com/example/hourline/hourline/network/EdgeValues", name := "<init>", desc := "([[I[[DI)V" } : Jvm.MethodName) prog_101_method_3_code (4 : Nat) (Option.none : Option Jvm.ClassFile.FieldType), Jvm.Cond.code ({ cls := "java/lang/Object", name := "<init>", desc := "()V" } : Jvm.MethodName) object_method_1_code (1 : Nat) (Option.none : Option Jvm.ClassFile.FieldType), Jvm.Cond.code ({ cls := "com/example/hourline/hourline/network/EdgeValuesFirstUnfitPinLaw", name := "m", desc := "(I)D" } : Jvm.MethodName) method_2_code (1 : Nat) (Option.some Jvm.ClassFile.FieldType.double), Jvm.Cond.code ({ cls := "com/example/hourline/hourline/network/EdgeValues", name := "add", desc := "(IIIIDD)I" } : Jvm.MethodName) prog_101_method_14_code (9 : Nat) (Option.some Jvm.ClassFile.FieldType.int), Jvm.Cond.code ({ cls := "com/example/hourline/hourline/network/EdgeValues", name := "place", desc := "(IIIDD)V" } : Jvm.MethodName) prog_101_method_16_code (8 : Nat) (Option.none : Option Jvm.ClassFile.FieldType), Jvm.Cond.code ({ cls := "com/example/hourline/hourline/network/EdgeValuesFirstUnfitPinLaw", name := "in", desc := "(II)Z" } : Jvm.MethodName) method_4_code (2 : Nat) (Option.some Jvm.ClassFile.FieldType.boolean), Jvm.Cond.code ({ cls := "com/example/hourline/hourline/network/EdgeValues", name := "firstUnfit", desc := "([I)I" } : Jvm.MethodName) prog_101_method_33_code (8 : Nat) (Option.some Jvm.ClassFile.FieldType.int), Jvm.Cond.code ({ cls := "com/example/hourline/hourline/network/EdgeValues", name := "size", desc := "()I" } : Jvm.MethodName) prog_101_method_4_code (1 : Nat) (Option.some Jvm.ClassFile.FieldType.int), Jvm.Cond.code ({ cls := "com/example/hourline/hourline/network/EdgeValues", name := "rise", desc := "(IDD)V" } : Jvm.MethodName) prog_101_method_17_code (6 : Nat) (Option.none : Option Jvm.ClassFile.FieldType), Jvm.Cond.code ({ cls := "com/example/hourline/hourline/network/EdgeValuesFirstUnfitPinLaw", name := "finite", desc := "(I)Z" } : Jvm.MethodName) method_3_code (1 : Nat) (Option.some Jvm.ClassFile.FieldType.boolean)]
set_option maxRecDepth 65536 in
theorem codes_eq : words1.filter isCode = codes1 := rfl
theorem w_codes : ∀ c ∈ words1.filter isCode, c.before args0 about1 = true := by
  rw [codes_eq]
  intro c hc
  simp only [codes1, List.mem_cons, List.not_mem_nil, or_false] at hc
  rcases hc with rfl | rfl | rfl | rfl | rfl | rfl | rfl | rfl | rfl | rfl | rfl | rfl | rfl | rfl
  · exact w_c0
  · exact w_c1
  · exact w_c2
  · exact w_c3
  · exact w_c4
  · exact w_c5
  · exact w_c6
  · exact w_c7
  · exact w_c8
  · exact w_c9
  · exact w_c10
  · exact w_c11
  · exact w_c12
  · exact w_c13
set_option maxRecDepth 65536 in
theorem w_t1 : (words1.take 24).all (fun c => isCode c || c.before args0 about1) = true := by decide +kernel
set_option maxRecDepth 65536 in
theorem w_t2 : ((words1.drop 24).take 24).all (fun c => isCode c || c.before args0 about1) = true := by decide +kernel
set_option maxRecDepth 65536 in
theorem w_t3 : (((words1.drop 24).drop 24).take 24).all (fun c => isCode c || c.before args0 about1) = true := by decide +kernel
set_option maxRecDepth 65536 in
theorem w_t4 : (((words1.drop 24).drop 24).drop 24).all (fun c => isCode c || c.before args0 about1) = true := by decide +kernel
theorem w_tables : (allAtoms (Jvm.Cond.code x code maxLocals ret :: tables_1)).before args0 about1 = true := by
  rw [allAtoms_all]
  show words1.all (fun c => c.before args0 about1) = true
  refine all_split ?_ w_codes
  rw [← List.take_append_drop 24 words1, List.all_append, w_t1, ← List.take_append_drop 24 (words1.drop 24), List.all_append, w_t2, ← List.take_append_drop 24 ((words1.drop 24).drop 24), List.all_append, w_t3, w_t4]
  rfl
set_option maxRecDepth 65536 in
theorem w_case : (Jvm.Cond.and given_1 narrow_1).before args0 about1 = true := by decide +kernel
theorem w_applies : (headSpec (Jvm.Cond.code x code maxLocals ret :: tables_1) room_1).applies x e0.platform about1 = true :=
  (Spec.applies_iff w_frames).mpr ⟨w_running, w_runnable, w_alone, w_named, w_hears, w_ripe, w_room, w_tables⟩
theorem atStart : AtStart classFile x code maxLocals ret World_1 tables_1 room_1 Calls_1 rest_1 Pre_1 launch0 p0 e0 about1 theMethod args0 below0 :=
  ⟨lists_1, trivial, launch0.admits_env _ _ _, launch0.least_env, fairChoices_fair.cas, fairChoices_fair.clock, w_frames, w_args, w_heap, w_applies, trivial, trivial, w_case⟩
end start1
theorem witness_1 : WitnessClaimed_1 := ⟨start1.p0, start1.e0, start1.about1, start1.theMethod, start1.args0, start1.below0, start1.atStart⟩
end Jvm.Pilot.@@N@@
