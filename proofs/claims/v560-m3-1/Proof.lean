import JvmDerived
import JvmDerived.Pilot.@@N@@Statement
import JvmDerived.Pilot.@@N@@Code
set_option linter.unusedVariables false
set_option linter.unusedSimpArgs false

namespace Jvm.Pilot.@@N@@
open Jvm Jvm.ClassFile Sem Op Lib Jvm.Free Jvm.Stand Jvm.LawKit Jvm.RoadKit Bundle Jvm.Pilot.@@N@@.Jvm.D
/-! own text: the run of a body in continuation form -/
section OwnKit
variable {p : Program} {l : Launch} {e : Env} {R : Room} {s : State} {m : MethodId} {args : Array Value} {below : List Frame} {meth : Method} {c : Code} {T : State} {locs : List Loc} {cells slots : Nat} {Z : State} {a0 : Array Value} {h : Heap} {Qb : Option Value → Heap → List Loc → Prop} {kc ks : Nat}
/-- from the state T with the frame g on top the run comes to the end of the body, and there Qb holds -/
def Ends (p : Program) (e : Env) (below : List Frame) (s : State) (Qb : Option Value → Heap → List Loc → Prop) (kc ks : Nat) (T : State) (g : JFrame) : Prop :=
  ∃ s₂ o, Steps p.tables e below (T.setTop g) s₂ ∧ s₂.status = .running ∧ Ended s₂ below o ∧ ∃ v L, o = .returned v ∧ Qb v s₂.heap L ∧ FrameEnd s o s₂ L kc ks
theorem Ends.go {T T' : State} {g g' : JFrame} (h : ∀ t, Steps p.tables e below (T'.setTop g') t → Steps p.tables e below (T.setTop g) t) (k : Ends p e below s Qb kc ks T' g') : Ends p e below s Qb kc ks T g := by
  obtain ⟨s2, o, st, r⟩ := k
  exact ⟨s2, o, h _ st, r⟩
theorem Ends.cast {T : State} {g g' : JFrame} (h : g = g') (k : Ends p e below s Qb kc ks T g') : Ends p e below s Qb kc ks T g := h ▸ k
abbrev Con (l : Launch) (y : MethodName) (code : ByteArray) (ml : Nat) (rt : Option FieldType) (ws : List Jvm.Cond) (rm : Room) (as' : Array Value) (Z : State) (h0 : Heap) (Q : Option Value → Heap → List Loc → Prop) : Prop :=
  MetFree l y (head1 (Jvm.Cond.code y code ml rt :: ws) rm) (fun a U => a = as' ∧ Z.Warmed39 U.vm ∧ U.heap = h0) (fun _ _ _ _ _ => True) (fun _ U o U' => ∃ v L, o = .returned v ∧ Q v U'.heap L ∧ FrameEnd U o U' L rm.cells rm.slots)
theorem Con.of {y : MethodName} {code : ByteArray} {ml : Nat} {rt : Option FieldType} {ws : List Jvm.Cond} {rm : Room} {as' : Array Value} {h0 : Heap} {Q : Option Value → Heap → List Loc → Prop} (hp : plainFor y = true)
    (k : ∀ (p : Program) (e : Env) (s : State) (m : MethodId) (below : List Frame) (meth : Method) (c : Code) (s₁ : State), p.tables.exec = Jvm.exec → Z.Warmed39 s.vm → c.code = code → c.maxLocals = ml → s.vm.findClass y.cls = some m.cls → meth.name = y.name → meth.sig.returnType = rt → meth.locks = false →
      Stand p l e rm s m as' below meth c s₁ [] 0 0 → s₁.heap = h0 → Ends p e below s Q rm.cells rm.slots s₁ (entryFrame m as' ml)) : Con l y code ml rt ws rm as' Z h0 Q := by
  refine MetFree.of_bodySF hp hisR ?_
  intro p e s m args below meth c s₁ Bd hml0 hP hK
  obtain ⟨rfl, hZ, hh⟩ := hP
  exact k p e s m below meth c s₁ Bd.exec hZ Bd.bytes hml0 (findClass_of_methodNamed Bd.named) (name_of_methodNamed Bd.named Bd.method).1 Bd.returns Bd.notSynchronized (Stand.of_body Bd) (by rw [← hh, Bd.state]; rfl)
theorem Ends.ret (X : Stand p l e R s m args below meth c T locs cells slots) (hx : p.tables.exec = Jvm.exec) (hlk : meth.locks = false) {pc : Nat} {Ls : Array Slot} {w : Value} {t : FieldType} {i : Instr} {rest : List Value} (hret : meth.sig.returnType = some t) (hn : narrow t w = w)
    (hi : (i = .ireturn ∧ (t = .int ∨ t = .boolean ∨ t = .byte ∨ t = .char ∨ t = .short) ∧ ∃ z, w = .int z) ∨ (i = .lreturn ∧ t = .long ∧ ∃ z, w = .long z) ∨ (i = .dreturn ∧ t = .double ∧ ∃ z, w = .double z) ∨ (i = .freturn ∧ t = .float ∧ ∃ z, w = .float z) ∨ (i = .areturn ∧ t.isReference = true ∧ w.isRef = true))
    (hd : decode c.code pc = .ok (i, 1)) (hc : cells ≤ kc) (hs : slots ≤ ks) (hQ : Qb (some w) T.heap locs) : Ends p e below s Qb kc ks T (mkF m pc Ls (w :: rest)) := by
  obtain ⟨fs, hr, hrun, hended, hW, hsame⟩ := X.leave (v := some w) (fun h => by rw [hret] at h; cases h) hlk
  exact ⟨_, _, retOut X hx hret hn hi hd hr, hrun, hended, _, _, rfl, hQ, ⟨_, rfl⟩, hW, hsame.mono hc hs⟩
theorem Ends.retI (X : Stand p l e R s m args below meth c T locs cells slots) (hx : p.tables.exec = Jvm.exec) (hlk : meth.locks = false) {pc : Nat} {Ls : Array Slot} {z : Int32} {rest : List Value} (hret : meth.sig.returnType = some .int) (hd : decode c.code pc = .ok (.ireturn, 1)) (hc : cells ≤ kc) (hs : slots ≤ ks) (hQ : Qb (some (.int z)) T.heap locs) : Ends p e below s Qb kc ks T (mkF m pc Ls (.int z :: rest)) :=
  Ends.ret X hx hlk hret rfl (Or.inl ⟨rfl, Or.inl rfl, _, rfl⟩) hd hc hs hQ
theorem Ends.retJ (X : Stand p l e R s m args below meth c T locs cells slots) (hx : p.tables.exec = Jvm.exec) (hlk : meth.locks = false) {pc : Nat} {Ls : Array Slot} {z : Int64} {rest : List Value} (hret : meth.sig.returnType = some .long) (hd : decode c.code pc = .ok (.lreturn, 1)) (hc : cells ≤ kc) (hs : slots ≤ ks) (hQ : Qb (some (.long z)) T.heap locs) : Ends p e below s Qb kc ks T (mkF m pc Ls (.long z :: rest)) :=
  Ends.ret X hx hlk hret rfl (Or.inr (Or.inl ⟨rfl, rfl, _, rfl⟩)) hd hc hs hQ
theorem Ends.retS (X : Stand p l e R s m args below meth c T locs cells slots) (hx : p.tables.exec = Jvm.exec) (hlk : meth.locks = false) {pc : Nat} {Ls : Array Slot} {z : Int32} {t : FieldType} {rest : List Value} (hret : meth.sig.returnType = some t) (ht : t = .boolean ∨ t = .byte ∨ t = .char ∨ t = .short) (hn : narrow t (.int z) = .int z) (hd : decode c.code pc = .ok (.ireturn, 1)) (hc : cells ≤ kc) (hs : slots ≤ ks) (hQ : Qb (some (.int z)) T.heap locs) : Ends p e below s Qb kc ks T (mkF m pc Ls (.int z :: rest)) :=
  Ends.ret X hx hlk hret hn (Or.inl ⟨rfl, Or.inr ht, _, rfl⟩) hd hc hs hQ
theorem Ends.retA (X : Stand p l e R s m args below meth c T locs cells slots) (hx : p.tables.exec = Jvm.exec) (hlk : meth.locks = false) {pc : Nat} {Ls : Array Slot} {w : Value} {t : FieldType} {rest : List Value} (hret : meth.sig.returnType = some t) (ht : t.isReference = true) (hw : w.isRef = true) (hn : narrow t w = w) (hd : decode c.code pc = .ok (.areturn, 1)) (hc : cells ≤ kc) (hs : slots ≤ ks) (hQ : Qb (some w) T.heap locs) : Ends p e below s Qb kc ks T (mkF m pc Ls (w :: rest)) :=
  Ends.ret X hx hlk hret hn (Or.inr (Or.inr (Or.inr (Or.inr ⟨rfl, ht, hw⟩)))) hd hc hs hQ
theorem Ends.retV (X : Stand p l e R s m args below meth c T locs cells slots) (hx : p.tables.exec = Jvm.exec) (hlk : meth.locks = false) {pc : Nat} {Ls : Array Slot} (hret : meth.sig.returnType = none) (hd : decode c.code pc = .ok (.return_, 1)) (hc : cells ≤ kc) (hs : slots ≤ ks) (hQ : Qb none T.heap locs) : Ends p e below s Qb kc ks T (mkF m pc Ls []) := by
  obtain ⟨fs, hr, hrun, hended, hW, hsame⟩ := X.leave (v := none) (fun _ => rfl) hlk
  exact ⟨_, _, X.returnOut hx hret hd hr, hrun, hended, _, _, rfl, hQ, ⟨_, rfl⟩, hW, hsame.mono hc hs⟩
/-- a static call by its contract -/
theorem Ends.callS (X : Stand p l e R s m args below meth c T locs cells slots) (hx : p.tables.exec = Jvm.exec) (hZ : Z.Warmed39 s.vm) {own : String} (hown : s.vm.findClass own = some m.cls) {index : Nat} {y : MethodName} {bytes : ByteArray} {maxL : Nat} {rt : Option FieldType} {rm : Room} {Q : Option Value → Heap → List Loc → Prop}
    (w1 : (Jvm.Cond.methodLink own index y).before a0 Z = true) (w2 : (Jvm.Cond.static y).before a0 Z = true) (w3 : (Jvm.Cond.initialized y.cls).before a0 Z = true) (w4 : (Jvm.Cond.code y bytes maxL rt).before a0 Z = true) (hy : y.cls ≠ "java/lang/invoke/MethodHandle" ∧ y.cls ≠ "java/lang/invoke/VarHandle")
    {argsL rest : List Value} (eT : T.heap = h) (M : Con l y bytes maxL rt [] rm argsL.toArray Z h Q) {W pc : Nat} (hf : rm.frames + 1 ≤ R.frames) (hl : W + (maxL + 11) + rm.locals ≤ R.locals) {Ls : Array Slot} (hsz : Ls.size = c.maxLocals)
    (hlen : ∀ sig, parseMethodDescriptor y.desc = some sig → argsL.length = sig.parameters.length) (hW : (rest.map fun v => v.category).sum ≤ W) (hd : decode c.code pc = .ok (.invokestatic index, 3)) (hc : cells + rm.cells ≤ R.cells) (hs : slots + rm.slots ≤ R.slots) {st : List Value} (hst : st = argsL.reverse ++ rest)
    (k : ∀ T' v L, Stand p l e R s m args below meth c T' (locs ++ L) (cells + rm.cells) (slots + rm.slots) → Q v T'.heap L → Ends p e below s Qb kc ks T' (mkF m (pc + 3) Ls (v.toList ++ rest))) :
    Ends p e below s Qb kc ks T (mkF m pc Ls st) := by
  obtain ⟨v, vm1, ⟨T1, L1, k1, n1⟩, -, X1, ⟨Lc, hQ, q1, q2, q3⟩, st1⟩ := Jvm.LawKit.callS X hx hown (mvT hZ w1) (mvT hZ w2) (mvT hZ w3) (mvT hZ w4) hy (backOf (W := W) M hZ w4 w3 hf hl) (g := mkF m pc Ls st) rfl hsz (argsL := argsL) (rest := rest) hlen hst (by show 2 * 0 + _ ≤ _; omega) hd (fun _ _ => ⟨rfl, eT, hc, hs⟩)
  dsimp only [Pt.U, Pt.locs, Pt.cells, Pt.slots] at X1 q1 q2 q3 st1 hQ
  subst q1 q2 q3
  exact Ends.go st1 (k T1 v Lc X1 hQ)
/-- a constructor by its contract -/
theorem Ends.callI (X : Stand p l e R s m args below meth c T locs cells slots) (hx : p.tables.exec = Jvm.exec) (hZ : Z.Warmed39 s.vm) {own : String} (hown : s.vm.findClass own = some m.cls) {index : Nat} {y : MethodName} {bytes : ByteArray} {maxL : Nat} {rm : Room} {Q : Option Value → Heap → List Loc → Prop}
    (w1 : (Jvm.Cond.methodLink own index y).before a0 Z = true) (w2 : (Jvm.Cond.instanceMethod y).before a0 Z = true) (w3 : (Jvm.Cond.initialized y.cls).before a0 Z = true) (w4 : (Jvm.Cond.code y bytes maxL none).before a0 Z = true) (hyn : y.name = "<init>") (hy : y.cls ≠ "java/lang/invoke/MethodHandle" ∧ y.cls ≠ "java/lang/invoke/VarHandle")
    {b : Addr} {argsL rest : List Value} (eT : T.heap = h) (M : Con l y bytes maxL none [] rm (.ref b :: argsL).toArray Z h Q) {W pc : Nat} (hf : rm.frames + 1 ≤ R.frames) (hl : W + (maxL + 11) + rm.locals ≤ R.locals) {Ls : Array Slot} (hsz : Ls.size = c.maxLocals)
    (hlen : ∀ sig, parseMethodDescriptor y.desc = some sig → argsL.length = sig.parameters.length) (hW : (rest.map fun v => v.category).sum ≤ W) (hd : decode c.code pc = .ok (.invokespecial index, 3)) (hc : cells + rm.cells ≤ R.cells) (hs : slots + rm.slots ≤ R.slots) {st : List Value} (hst : st = argsL.reverse ++ .ref b :: rest)
    (k : ∀ T' v L, Stand p l e R s m args below meth c T' (locs ++ L) (cells + rm.cells) (slots + rm.slots) → Q v T'.heap L → Ends p e below s Qb kc ks T' (mkF m (pc + 3) Ls (v.toList ++ rest))) :
    Ends p e below s Qb kc ks T (mkF m pc Ls st) := by
  obtain ⟨v, vm1, ⟨T1, L1, k1, n1⟩, -, X1, ⟨Lc, hQ, q1, q2, q3⟩, st1⟩ := X.specialBack hx hyn hown (mvT hZ w1) (mvT hZ w2) (mvT hZ w4) hy (backOf (W := W) M hZ w4 w3 hf hl) (g := mkF m pc Ls st) rfl hsz (Steps.refl _) (a := b) (argsL := argsL) (rest := rest) hlen hst (by show 2 * 0 + _ ≤ _; omega) hd (fun _ _ => ⟨rfl, eT, hc, hs⟩)
  dsimp only [Pt.U, Pt.locs, Pt.cells, Pt.slots] at X1 q1 q2 q3 st1 hQ
  subst q1 q2 q3
  exact Ends.go (fun t kt => st1.trans kt) (k T1 v Lc X1 hQ)
/-- an instance method by its contract -/
theorem Ends.callV (X : Stand p l e R s m args below meth c T locs cells slots) (hx : p.tables.exec = Jvm.exec) (hZ : Z.Warmed39 s.vm) {own C : String} (hown : s.vm.findClass own = some m.cls) {index : Nat} {y : MethodName} {bytes : ByteArray} {maxL : Nat} {rt : Option FieldType} {rm : Room} {Q : Option Value → Heap → List Loc → Prop}
    (w1 : (Jvm.Cond.methodLink own index y).before a0 Z = true) (w2 : (Jvm.Cond.declares y).before a0 Z = true) (w5 : (Jvm.Cond.selects C y y).before a0 Z = true) (w6 : (Jvm.Cond.instanceMethod y).before a0 Z = true) (w3 : (Jvm.Cond.initialized y.cls).before a0 Z = true) (w4 : (Jvm.Cond.code y bytes maxL rt).before a0 Z = true) (hy : y.cls ≠ "java/lang/invoke/MethodHandle" ∧ y.cls ≠ "java/lang/invoke/VarHandle")
    {b : Addr} {argsL rest : List Value} (eT : T.heap = h) (E : Exa Z h b C) (M : Con l y bytes maxL rt [] rm (.ref b :: argsL).toArray Z h Q) {W pc : Nat} (hf : rm.frames + 1 ≤ R.frames) (hl : W + (maxL + 11) + rm.locals ≤ R.locals) {Ls : Array Slot} (hsz : Ls.size = c.maxLocals)
    (hlen : ∀ sig, parseMethodDescriptor y.desc = some sig → argsL.length = sig.parameters.length) (hW : (rest.map fun v => v.category).sum ≤ W) (hd : decode c.code pc = .ok (.invokevirtual index, 3)) (hc : cells + rm.cells ≤ R.cells) (hs : slots + rm.slots ≤ R.slots) {st : List Value} (hst : st = argsL.reverse ++ .ref b :: rest)
    (k : ∀ T' v L, Stand p l e R s m args below meth c T' (locs ++ L) (cells + rm.cells) (slots + rm.slots) → Q v T'.heap L → Ends p e below s Qb kc ks T' (mkF m (pc + 3) Ls (v.toList ++ rest))) :
    Ends p e below s Qb kc ks T (mkF m pc Ls st) := by
  obtain ⟨cq, kq, qa, qb, qc⟩ := isOf (T := T) hZ eT E
  obtain ⟨v, vm1, ⟨T1, L1, k1, n1⟩, -, X1, ⟨Lc, hQ, q1, q2, q3⟩, st1⟩ := X.virtualBack hx (y := y) (z := y) hown (mvT hZ w1) (mvT hZ w2) (notFace_of_selects (args := #[]) (mvT hZ w5)) (mvT hZ w5) (mvT hZ w6) hy (backOf (W := W) M hZ w4 w3 hf hl) qa qc (g := mkF m pc Ls st) rfl hsz (Steps.refl _) (argsL := argsL) (rest := rest) hlen hst (by show 2 * 0 + _ ≤ _; omega) hd (fun _ _ => ⟨rfl, eT, hc, hs⟩)
  dsimp only [Pt.U, Pt.locs, Pt.cells, Pt.slots] at X1 q1 q2 q3 st1 hQ
  subst q1 q2 q3
  exact Ends.go (fun t kt => st1.trans kt) (k T1 v Lc X1 hQ)
end OwnKit
/-! own text, printed by mksteps.py: one lemma a plain instruction -/
section OwnSteps
variable {p : Program} {l : Launch} {e : Env} {R : Room} {s : State} {m : MethodId} {args : Array Value} {below : List Frame} {meth : Method} {c : Code} {T : State} {locs : List Loc} {cells slots : Nat} {Z : State} {a0 : Array Value} {h : Heap} {Qb : Option Value → Heap → List Loc → Prop} {kc ks : Nat} {Ls l' : Array Slot} {st : List Value} {pc q k : Nat} {kf : Fin 4} {k2 : Fin 2}
theorem E.iload {v : Int32} (X : Stand p l e R s m args below meth c T locs cells slots) (hx : p.tables.exec = Jvm.exec) (hd : decode c.code pc = .ok (.iload k, 2)) (hl : Ls[k]? = some (.val (.int v))) (k' : Ends p e below s Qb kc ks T (mkF m q Ls (.int v :: st))) (hq : pc + 2 = q := by rfl) : Ends p e below s Qb kc ks T (mkF m pc Ls st) := by
  subst hq; exact Ends.go (fun t => XS.iload X.here hx rfl hd hl) k'
theorem E.iloadN {v : Int32} (X : Stand p l e R s m args below meth c T locs cells slots) (hx : p.tables.exec = Jvm.exec) (hd : decode c.code pc = .ok (.iload_n kf, 1)) (hl : Ls[kf.val]? = some (.val (.int v))) (k' : Ends p e below s Qb kc ks T (mkF m q Ls (.int v :: st))) (hq : pc + 1 = q := by rfl) : Ends p e below s Qb kc ks T (mkF m pc Ls st) := by
  subst hq; exact Ends.go (fun t => XS.iloadN X.here hx rfl hd hl) k'
theorem E.istore {v : Int32} (X : Stand p l e R s m args below meth c T locs cells slots) (hx : p.tables.exec = Jvm.exec) (hd : decode c.code pc = .ok (.istore k, 2)) (hl : storeLocals Ls k (.int v) = some l') (k' : Ends p e below s Qb kc ks T (mkF m q l' st)) (hq : pc + 2 = q := by rfl) : Ends p e below s Qb kc ks T (mkF m pc Ls (.int v :: st)) := by
  subst hq; exact Ends.go (fun t => XS.istore X.here hx rfl hd rfl hl) k'
theorem E.istoreN {v : Int32} (X : Stand p l e R s m args below meth c T locs cells slots) (hx : p.tables.exec = Jvm.exec) (hd : decode c.code pc = .ok (.istore_n kf, 1)) (hl : storeLocals Ls kf.val (.int v) = some l') (k' : Ends p e below s Qb kc ks T (mkF m q l' st)) (hq : pc + 1 = q := by rfl) : Ends p e below s Qb kc ks T (mkF m pc Ls (.int v :: st)) := by
  subst hq; exact Ends.go (fun t => XS.istoreN X.here hx rfl hd rfl hl) k'
theorem E.lload {v : Int64} (X : Stand p l e R s m args below meth c T locs cells slots) (hx : p.tables.exec = Jvm.exec) (hd : decode c.code pc = .ok (.lload k, 2)) (hl : Ls[k]? = some (.val (.long v))) (k' : Ends p e below s Qb kc ks T (mkF m q Ls (.long v :: st))) (hq : pc + 2 = q := by rfl) : Ends p e below s Qb kc ks T (mkF m pc Ls st) := by
  subst hq; exact Ends.go (fun t => XS.lload X.here hx rfl hd hl) k'
theorem E.lloadN {v : Int64} (X : Stand p l e R s m args below meth c T locs cells slots) (hx : p.tables.exec = Jvm.exec) (hd : decode c.code pc = .ok (.lload_n kf, 1)) (hl : Ls[kf.val]? = some (.val (.long v))) (k' : Ends p e below s Qb kc ks T (mkF m q Ls (.long v :: st))) (hq : pc + 1 = q := by rfl) : Ends p e below s Qb kc ks T (mkF m pc Ls st) := by
  subst hq; exact Ends.go (fun t => XS.lloadN X.here hx rfl hd hl) k'
theorem E.lstore {v : Int64} (X : Stand p l e R s m args below meth c T locs cells slots) (hx : p.tables.exec = Jvm.exec) (hd : decode c.code pc = .ok (.lstore k, 2)) (hl : storeLocals Ls k (.long v) = some l') (k' : Ends p e below s Qb kc ks T (mkF m q l' st)) (hq : pc + 2 = q := by rfl) : Ends p e below s Qb kc ks T (mkF m pc Ls (.long v :: st)) := by
  subst hq; exact Ends.go (fun t => XS.lstore X.here hx rfl hd rfl hl) k'
theorem E.lstoreN {v : Int64} (X : Stand p l e R s m args below meth c T locs cells slots) (hx : p.tables.exec = Jvm.exec) (hd : decode c.code pc = .ok (.lstore_n kf, 1)) (hl : storeLocals Ls kf.val (.long v) = some l') (k' : Ends p e below s Qb kc ks T (mkF m q l' st)) (hq : pc + 1 = q := by rfl) : Ends p e below s Qb kc ks T (mkF m pc Ls (.long v :: st)) := by
  subst hq; exact Ends.go (fun t => XS.lstoreN X.here hx rfl hd rfl hl) k'
theorem E.dload {v : UInt64} (X : Stand p l e R s m args below meth c T locs cells slots) (hx : p.tables.exec = Jvm.exec) (hd : decode c.code pc = .ok (.dload k, 2)) (hl : Ls[k]? = some (.val (.double v))) (k' : Ends p e below s Qb kc ks T (mkF m q Ls (.double v :: st))) (hq : pc + 2 = q := by rfl) : Ends p e below s Qb kc ks T (mkF m pc Ls st) := by
  subst hq; exact Ends.go (fun t => XS.dload X.here hx rfl hd hl) k'
theorem E.dloadN {v : UInt64} (X : Stand p l e R s m args below meth c T locs cells slots) (hx : p.tables.exec = Jvm.exec) (hd : decode c.code pc = .ok (.dload_n kf, 1)) (hl : Ls[kf.val]? = some (.val (.double v))) (k' : Ends p e below s Qb kc ks T (mkF m q Ls (.double v :: st))) (hq : pc + 1 = q := by rfl) : Ends p e below s Qb kc ks T (mkF m pc Ls st) := by
  subst hq; exact Ends.go (fun t => XS.dloadN X.here hx rfl hd hl) k'
theorem E.dstore {v : UInt64} (X : Stand p l e R s m args below meth c T locs cells slots) (hx : p.tables.exec = Jvm.exec) (hd : decode c.code pc = .ok (.dstore k, 2)) (hl : storeLocals Ls k (.double v) = some l') (k' : Ends p e below s Qb kc ks T (mkF m q l' st)) (hq : pc + 2 = q := by rfl) : Ends p e below s Qb kc ks T (mkF m pc Ls (.double v :: st)) := by
  subst hq; exact Ends.go (fun t => XS.dstore X.here hx rfl hd rfl hl) k'
theorem E.dstoreN {v : UInt64} (X : Stand p l e R s m args below meth c T locs cells slots) (hx : p.tables.exec = Jvm.exec) (hd : decode c.code pc = .ok (.dstore_n kf, 1)) (hl : storeLocals Ls kf.val (.double v) = some l') (k' : Ends p e below s Qb kc ks T (mkF m q l' st)) (hq : pc + 1 = q := by rfl) : Ends p e below s Qb kc ks T (mkF m pc Ls (.double v :: st)) := by
  subst hq; exact Ends.go (fun t => XS.dstoreN X.here hx rfl hd rfl hl) k'
theorem E.aload {v : Value} (X : Stand p l e R s m args below meth c T locs cells slots) (hx : p.tables.exec = Jvm.exec) (hd : decode c.code pc = .ok (.aload k, 2)) (hl : Ls[k]? = some (.val v)) (hv : v.isRef = true) (k' : Ends p e below s Qb kc ks T (mkF m q Ls (v :: st))) (hq : pc + 2 = q := by rfl) : Ends p e below s Qb kc ks T (mkF m pc Ls st) := by
  subst hq; exact Ends.go (fun t => XS.aload X.here hx rfl hd hl hv) k'
theorem E.aloadN {v : Value} (X : Stand p l e R s m args below meth c T locs cells slots) (hx : p.tables.exec = Jvm.exec) (hd : decode c.code pc = .ok (.aload_n kf, 1)) (hl : Ls[kf.val]? = some (.val v)) (hv : v.isRef = true) (k' : Ends p e below s Qb kc ks T (mkF m q Ls (v :: st))) (hq : pc + 1 = q := by rfl) : Ends p e below s Qb kc ks T (mkF m pc Ls st) := by
  subst hq; exact Ends.go (fun t => XS.aloadN X.here hx rfl hd hl hv) k'
theorem E.astore {v : Value} (X : Stand p l e R s m args below meth c T locs cells slots) (hx : p.tables.exec = Jvm.exec) (hd : decode c.code pc = .ok (.astore k, 2)) (hv : v.isRef = true) (hl : storeLocals Ls k v = some l') (k' : Ends p e below s Qb kc ks T (mkF m q l' st)) (hq : pc + 2 = q := by rfl) : Ends p e below s Qb kc ks T (mkF m pc Ls (v :: st)) := by
  subst hq; exact Ends.go (fun t => XS.astore X.here hx rfl hd rfl hv hl) k'
theorem E.astoreN {v : Value} (X : Stand p l e R s m args below meth c T locs cells slots) (hx : p.tables.exec = Jvm.exec) (hd : decode c.code pc = .ok (.astore_n kf, 1)) (hv : v.isRef = true) (hl : storeLocals Ls kf.val v = some l') (k' : Ends p e below s Qb kc ks T (mkF m q l' st)) (hq : pc + 1 = q := by rfl) : Ends p e below s Qb kc ks T (mkF m pc Ls (v :: st)) := by
  subst hq; exact Ends.go (fun t => XS.astoreN X.here hx rfl hd rfl hv hl) k'
theorem E.iconst {i : Int} {v : Int32} (X : Stand p l e R s m args below meth c T locs cells slots) (hx : p.tables.exec = Jvm.exec) (hd : decode c.code pc = .ok (.iconst i, 1)) (hv : Int32.ofInt i = v) (k' : Ends p e below s Qb kc ks T (mkF m q Ls (.int v :: st))) (hq : pc + 1 = q := by rfl) : Ends p e below s Qb kc ks T (mkF m pc Ls st) := by
  subst hq; subst hv; exact Ends.go (fun t => XS.iconst X.here hx rfl hd) k'
theorem E.bipush {i : Int} {v : Int32} (X : Stand p l e R s m args below meth c T locs cells slots) (hx : p.tables.exec = Jvm.exec) (hd : decode c.code pc = .ok (.bipush i, 2)) (hv : (Int8.ofInt i).toInt32 = v) (k' : Ends p e below s Qb kc ks T (mkF m q Ls (.int v :: st))) (hq : pc + 2 = q := by rfl) : Ends p e below s Qb kc ks T (mkF m pc Ls st) := by
  subst hq; subst hv; exact Ends.go (fun t => XS.bipush X.here hx rfl hd) k'
theorem E.sipush {i : Int} {v : Int32} (X : Stand p l e R s m args below meth c T locs cells slots) (hx : p.tables.exec = Jvm.exec) (hd : decode c.code pc = .ok (.sipush i, 3)) (hv : (Int16.ofInt i).toInt32 = v) (k' : Ends p e below s Qb kc ks T (mkF m q Ls (.int v :: st))) (hq : pc + 3 = q := by rfl) : Ends p e below s Qb kc ks T (mkF m pc Ls st) := by
  subst hq; subst hv; exact Ends.go (fun t => XS.sipush X.here hx rfl hd) k'
theorem E.lconst {v : Int64} (X : Stand p l e R s m args below meth c T locs cells slots) (hx : p.tables.exec = Jvm.exec) (hd : decode c.code pc = .ok (.lconst k2, 1)) (hv : Int64.ofNat k2 = v) (k' : Ends p e below s Qb kc ks T (mkF m q Ls (.long v :: st))) (hq : pc + 1 = q := by rfl) : Ends p e below s Qb kc ks T (mkF m pc Ls st) := by
  subst hq; subst hv; exact Ends.go (fun t => XS.lconst X.here hx rfl hd) k'
theorem E.dconst0 {v : UInt64} (X : Stand p l e R s m args below meth c T locs cells slots) (hx : p.tables.exec = Jvm.exec) (hd : decode c.code pc = .ok (.dconst 0, 1)) (hv : FP.dconst0 = v) (k' : Ends p e below s Qb kc ks T (mkF m q Ls (.double v :: st))) (hq : pc + 1 = q := by rfl) : Ends p e below s Qb kc ks T (mkF m pc Ls st) := by
  subst hq; exact Ends.go (fun t => XS.dconst0 X.here hx rfl hd hv) k'
theorem E.dconst1 {v : UInt64} (X : Stand p l e R s m args below meth c T locs cells slots) (hx : p.tables.exec = Jvm.exec) (hd : decode c.code pc = .ok (.dconst 1, 1)) (hv : FP.dconst1 = v) (k' : Ends p e below s Qb kc ks T (mkF m q Ls (.double v :: st))) (hq : pc + 1 = q := by rfl) : Ends p e below s Qb kc ks T (mkF m pc Ls st) := by
  subst hq; exact Ends.go (fun t => XS.dconst1 X.here hx rfl hd hv) k'
theorem E.aconstNull  (X : Stand p l e R s m args below meth c T locs cells slots) (hx : p.tables.exec = Jvm.exec) (hd : decode c.code pc = .ok (.aconst_null, 1)) (k' : Ends p e below s Qb kc ks T (mkF m q Ls (.null :: st))) (hq : pc + 1 = q := by rfl) : Ends p e below s Qb kc ks T (mkF m pc Ls st) := by
  subst hq; exact Ends.go (fun t => XS.aconstNull X.here hx rfl hd) k'
theorem E.iadd {x y : Int32} (X : Stand p l e R s m args below meth c T locs cells slots) (hx : p.tables.exec = Jvm.exec) (hd : decode c.code pc = .ok (.iadd, 1)) (k' : Ends p e below s Qb kc ks T (mkF m q Ls (.int (x + y) :: st))) (hq : pc + 1 = q := by rfl) : Ends p e below s Qb kc ks T (mkF m pc Ls (.int y :: .int x :: st)) := by
  subst hq; exact Ends.go (fun t => XS.iadd X.here hx rfl hd rfl) k'
theorem E.isub {x y : Int32} (X : Stand p l e R s m args below meth c T locs cells slots) (hx : p.tables.exec = Jvm.exec) (hd : decode c.code pc = .ok (.isub, 1)) (k' : Ends p e below s Qb kc ks T (mkF m q Ls (.int (x - y) :: st))) (hq : pc + 1 = q := by rfl) : Ends p e below s Qb kc ks T (mkF m pc Ls (.int y :: .int x :: st)) := by
  subst hq; exact Ends.go (fun t => XS.isub X.here hx rfl hd rfl) k'
theorem E.imul {x y : Int32} (X : Stand p l e R s m args below meth c T locs cells slots) (hx : p.tables.exec = Jvm.exec) (hd : decode c.code pc = .ok (.imul, 1)) (k' : Ends p e below s Qb kc ks T (mkF m q Ls (.int (x * y) :: st))) (hq : pc + 1 = q := by rfl) : Ends p e below s Qb kc ks T (mkF m pc Ls (.int y :: .int x :: st)) := by
  subst hq; exact Ends.go (fun t => XS.imul X.here hx rfl hd rfl) k'
theorem E.iand {x y : Int32} (X : Stand p l e R s m args below meth c T locs cells slots) (hx : p.tables.exec = Jvm.exec) (hd : decode c.code pc = .ok (.iand, 1)) (k' : Ends p e below s Qb kc ks T (mkF m q Ls (.int (x &&& y) :: st))) (hq : pc + 1 = q := by rfl) : Ends p e below s Qb kc ks T (mkF m pc Ls (.int y :: .int x :: st)) := by
  subst hq; exact Ends.go (fun t => XS.iand X.here hx rfl hd rfl) k'
theorem E.ior {x y : Int32} (X : Stand p l e R s m args below meth c T locs cells slots) (hx : p.tables.exec = Jvm.exec) (hd : decode c.code pc = .ok (.ior, 1)) (k' : Ends p e below s Qb kc ks T (mkF m q Ls (.int (x ||| y) :: st))) (hq : pc + 1 = q := by rfl) : Ends p e below s Qb kc ks T (mkF m pc Ls (.int y :: .int x :: st)) := by
  subst hq; exact Ends.go (fun t => XS.ior X.here hx rfl hd rfl) k'
theorem E.ixor {x y : Int32} (X : Stand p l e R s m args below meth c T locs cells slots) (hx : p.tables.exec = Jvm.exec) (hd : decode c.code pc = .ok (.ixor, 1)) (k' : Ends p e below s Qb kc ks T (mkF m q Ls (.int (x ^^^ y) :: st))) (hq : pc + 1 = q := by rfl) : Ends p e below s Qb kc ks T (mkF m pc Ls (.int y :: .int x :: st)) := by
  subst hq; exact Ends.go (fun t => XS.ixor X.here hx rfl hd rfl) k'
theorem E.ladd {x y : Int64} (X : Stand p l e R s m args below meth c T locs cells slots) (hx : p.tables.exec = Jvm.exec) (hd : decode c.code pc = .ok (.ladd, 1)) (k' : Ends p e below s Qb kc ks T (mkF m q Ls (.long (x + y) :: st))) (hq : pc + 1 = q := by rfl) : Ends p e below s Qb kc ks T (mkF m pc Ls (.long y :: .long x :: st)) := by
  subst hq; exact Ends.go (fun t => XS.ladd X.here hx rfl hd rfl) k'
theorem E.lsub {x y : Int64} (X : Stand p l e R s m args below meth c T locs cells slots) (hx : p.tables.exec = Jvm.exec) (hd : decode c.code pc = .ok (.lsub, 1)) (k' : Ends p e below s Qb kc ks T (mkF m q Ls (.long (x - y) :: st))) (hq : pc + 1 = q := by rfl) : Ends p e below s Qb kc ks T (mkF m pc Ls (.long y :: .long x :: st)) := by
  subst hq; exact Ends.go (fun t => XS.lsub X.here hx rfl hd rfl) k'
theorem E.lmul {x y : Int64} (X : Stand p l e R s m args below meth c T locs cells slots) (hx : p.tables.exec = Jvm.exec) (hd : decode c.code pc = .ok (.lmul, 1)) (k' : Ends p e below s Qb kc ks T (mkF m q Ls (.long (x * y) :: st))) (hq : pc + 1 = q := by rfl) : Ends p e below s Qb kc ks T (mkF m pc Ls (.long y :: .long x :: st)) := by
  subst hq; exact Ends.go (fun t => XS.lmul X.here hx rfl hd rfl) k'
theorem E.land {x y : Int64} (X : Stand p l e R s m args below meth c T locs cells slots) (hx : p.tables.exec = Jvm.exec) (hd : decode c.code pc = .ok (.land, 1)) (k' : Ends p e below s Qb kc ks T (mkF m q Ls (.long (x &&& y) :: st))) (hq : pc + 1 = q := by rfl) : Ends p e below s Qb kc ks T (mkF m pc Ls (.long y :: .long x :: st)) := by
  subst hq; exact Ends.go (fun t => XS.land X.here hx rfl hd rfl) k'
theorem E.lor {x y : Int64} (X : Stand p l e R s m args below meth c T locs cells slots) (hx : p.tables.exec = Jvm.exec) (hd : decode c.code pc = .ok (.lor, 1)) (k' : Ends p e below s Qb kc ks T (mkF m q Ls (.long (x ||| y) :: st))) (hq : pc + 1 = q := by rfl) : Ends p e below s Qb kc ks T (mkF m pc Ls (.long y :: .long x :: st)) := by
  subst hq; exact Ends.go (fun t => XS.lor X.here hx rfl hd rfl) k'
theorem E.lxor {x y : Int64} (X : Stand p l e R s m args below meth c T locs cells slots) (hx : p.tables.exec = Jvm.exec) (hd : decode c.code pc = .ok (.lxor, 1)) (k' : Ends p e below s Qb kc ks T (mkF m q Ls (.long (x ^^^ y) :: st))) (hq : pc + 1 = q := by rfl) : Ends p e below s Qb kc ks T (mkF m pc Ls (.long y :: .long x :: st)) := by
  subst hq; exact Ends.go (fun t => XS.lxor X.here hx rfl hd rfl) k'
theorem E.ishl {x : Int32} {y : Int32} (X : Stand p l e R s m args below meth c T locs cells slots) (hx : p.tables.exec = Jvm.exec) (hd : decode c.code pc = .ok (.ishl, 1)) (k' : Ends p e below s Qb kc ks T (mkF m q Ls (.int (x <<< (y &&& 31)) :: st))) (hq : pc + 1 = q := by rfl) : Ends p e below s Qb kc ks T (mkF m pc Ls (.int y :: .int x :: st)) := by
  subst hq; exact Ends.go (fun t => XS.ishl X.here hx rfl hd rfl) k'
theorem E.ishr {x : Int32} {y : Int32} (X : Stand p l e R s m args below meth c T locs cells slots) (hx : p.tables.exec = Jvm.exec) (hd : decode c.code pc = .ok (.ishr, 1)) (k' : Ends p e below s Qb kc ks T (mkF m q Ls (.int (x >>> (y &&& 31)) :: st))) (hq : pc + 1 = q := by rfl) : Ends p e below s Qb kc ks T (mkF m pc Ls (.int y :: .int x :: st)) := by
  subst hq; exact Ends.go (fun t => XS.ishr X.here hx rfl hd rfl) k'
theorem E.iushr {x : Int32} {y : Int32} (X : Stand p l e R s m args below meth c T locs cells slots) (hx : p.tables.exec = Jvm.exec) (hd : decode c.code pc = .ok (.iushr, 1)) (k' : Ends p e below s Qb kc ks T (mkF m q Ls (.int ((x.toUInt32 >>> (y &&& 31).toUInt32).toInt32) :: st))) (hq : pc + 1 = q := by rfl) : Ends p e below s Qb kc ks T (mkF m pc Ls (.int y :: .int x :: st)) := by
  subst hq; exact Ends.go (fun t => XS.iushr X.here hx rfl hd rfl) k'
theorem E.lshl {x : Int64} {y : Int32} (X : Stand p l e R s m args below meth c T locs cells slots) (hx : p.tables.exec = Jvm.exec) (hd : decode c.code pc = .ok (.lshl, 1)) (k' : Ends p e below s Qb kc ks T (mkF m q Ls (.long (x <<< (y &&& 0x3f).toInt64) :: st))) (hq : pc + 1 = q := by rfl) : Ends p e below s Qb kc ks T (mkF m pc Ls (.int y :: .long x :: st)) := by
  subst hq; exact Ends.go (fun t => XS.lshl X.here hx rfl hd rfl) k'
theorem E.lshr {x : Int64} {y : Int32} (X : Stand p l e R s m args below meth c T locs cells slots) (hx : p.tables.exec = Jvm.exec) (hd : decode c.code pc = .ok (.lshr, 1)) (k' : Ends p e below s Qb kc ks T (mkF m q Ls (.long (x >>> (y &&& 0x3f).toInt64) :: st))) (hq : pc + 1 = q := by rfl) : Ends p e below s Qb kc ks T (mkF m pc Ls (.int y :: .long x :: st)) := by
  subst hq; exact Ends.go (fun t => XS.lshr X.here hx rfl hd rfl) k'
theorem E.lushr {x : Int64} {y : Int32} (X : Stand p l e R s m args below meth c T locs cells slots) (hx : p.tables.exec = Jvm.exec) (hd : decode c.code pc = .ok (.lushr, 1)) (k' : Ends p e below s Qb kc ks T (mkF m q Ls (.long ((x.toUInt64 >>> (y &&& 0x3f).toInt64.toUInt64).toInt64) :: st))) (hq : pc + 1 = q := by rfl) : Ends p e below s Qb kc ks T (mkF m pc Ls (.int y :: .long x :: st)) := by
  subst hq; exact Ends.go (fun t => XS.lushr X.here hx rfl hd rfl) k'
theorem E.ineg {x : Int32} (X : Stand p l e R s m args below meth c T locs cells slots) (hx : p.tables.exec = Jvm.exec) (hd : decode c.code pc = .ok (.ineg, 1)) (k' : Ends p e below s Qb kc ks T (mkF m q Ls (.int (-x) :: st))) (hq : pc + 1 = q := by rfl) : Ends p e below s Qb kc ks T (mkF m pc Ls (.int x :: st)) := by
  subst hq; exact Ends.go (fun t => XS.ineg X.here hx rfl hd rfl) k'
theorem E.lneg {x : Int64} (X : Stand p l e R s m args below meth c T locs cells slots) (hx : p.tables.exec = Jvm.exec) (hd : decode c.code pc = .ok (.lneg, 1)) (k' : Ends p e below s Qb kc ks T (mkF m q Ls (.long (-x) :: st))) (hq : pc + 1 = q := by rfl) : Ends p e below s Qb kc ks T (mkF m pc Ls (.long x :: st)) := by
  subst hq; exact Ends.go (fun t => XS.lneg X.here hx rfl hd rfl) k'
theorem E.i2l {x : Int32} (X : Stand p l e R s m args below meth c T locs cells slots) (hx : p.tables.exec = Jvm.exec) (hd : decode c.code pc = .ok (.i2l, 1)) (k' : Ends p e below s Qb kc ks T (mkF m q Ls (.long (x.toInt64) :: st))) (hq : pc + 1 = q := by rfl) : Ends p e below s Qb kc ks T (mkF m pc Ls (.int x :: st)) := by
  subst hq; exact Ends.go (fun t => XS.i2l X.here hx rfl hd rfl) k'
theorem E.l2i {x : Int64} (X : Stand p l e R s m args below meth c T locs cells slots) (hx : p.tables.exec = Jvm.exec) (hd : decode c.code pc = .ok (.l2i, 1)) (k' : Ends p e below s Qb kc ks T (mkF m q Ls (.int (x.toInt32) :: st))) (hq : pc + 1 = q := by rfl) : Ends p e below s Qb kc ks T (mkF m pc Ls (.long x :: st)) := by
  subst hq; exact Ends.go (fun t => XS.l2i X.here hx rfl hd rfl) k'
theorem E.i2b {x : Int32} (X : Stand p l e R s m args below meth c T locs cells slots) (hx : p.tables.exec = Jvm.exec) (hd : decode c.code pc = .ok (.i2b, 1)) (k' : Ends p e below s Qb kc ks T (mkF m q Ls (.int (x.toInt8.toInt32) :: st))) (hq : pc + 1 = q := by rfl) : Ends p e below s Qb kc ks T (mkF m pc Ls (.int x :: st)) := by
  subst hq; exact Ends.go (fun t => XS.i2b X.here hx rfl hd rfl) k'
theorem E.i2s {x : Int32} (X : Stand p l e R s m args below meth c T locs cells slots) (hx : p.tables.exec = Jvm.exec) (hd : decode c.code pc = .ok (.i2s, 1)) (k' : Ends p e below s Qb kc ks T (mkF m q Ls (.int (x.toInt16.toInt32) :: st))) (hq : pc + 1 = q := by rfl) : Ends p e below s Qb kc ks T (mkF m pc Ls (.int x :: st)) := by
  subst hq; exact Ends.go (fun t => XS.i2s X.here hx rfl hd rfl) k'
theorem E.i2c {x : Int32} (X : Stand p l e R s m args below meth c T locs cells slots) (hx : p.tables.exec = Jvm.exec) (hd : decode c.code pc = .ok (.i2c, 1)) (k' : Ends p e below s Qb kc ks T (mkF m q Ls (.int (x.toUInt32.toUInt16.toUInt32.toInt32) :: st))) (hq : pc + 1 = q := by rfl) : Ends p e below s Qb kc ks T (mkF m pc Ls (.int x :: st)) := by
  subst hq; exact Ends.go (fun t => XS.i2c X.here hx rfl hd rfl) k'
theorem E.i2d {x : Int32} (X : Stand p l e R s m args below meth c T locs cells slots) (hx : p.tables.exec = Jvm.exec) (hd : decode c.code pc = .ok (.i2d, 1)) (k' : Ends p e below s Qb kc ks T (mkF m q Ls (.double (FP.i2d x) :: st))) (hq : pc + 1 = q := by rfl) : Ends p e below s Qb kc ks T (mkF m pc Ls (.int x :: st)) := by
  subst hq; exact Ends.go (fun t => XS.i2dS X.here hx rfl hd rfl rfl) k'
theorem E.lcmp {x y : Int64} (X : Stand p l e R s m args below meth c T locs cells slots) (hx : p.tables.exec = Jvm.exec) (hd : decode c.code pc = .ok (.lcmp, 1)) (k' : Ends p e below s Qb kc ks T (mkF m q Ls (.int (lcmpW x y) :: st))) (hq : pc + 1 = q := by rfl) : Ends p e below s Qb kc ks T (mkF m pc Ls (.long y :: .long x :: st)) := by
  subst hq; exact Ends.go (fun t => XS.lcmp X.here hx rfl hd rfl) k'
theorem E.dcmp {x y : UInt64} {o : CmpOp} (X : Stand p l e R s m args below meth c T locs cells slots) (hx : p.tables.exec = Jvm.exec) (hd : decode c.code pc = .ok (.dcmp o, 1)) (k' : Ends p e below s Qb kc ks T (mkF m q Ls (.int (cmpValue (FP.dcmp x y) o) :: st))) (hq : pc + 1 = q := by rfl) : Ends p e below s Qb kc ks T (mkF m pc Ls (.double y :: .double x :: st)) := by
  subst hq; exact Ends.go (fun t => XS.dcmpS X.here hx rfl hd rfl rfl) k'
theorem E.idiv {x y : Int32} (X : Stand p l e R s m args below meth c T locs cells slots) (hx : p.tables.exec = Jvm.exec) (hd : decode c.code pc = .ok (.idiv, 1)) (hy : ¬ y = 0) (k' : Ends p e below s Qb kc ks T (mkF m q Ls (.int (x / y) :: st))) (hq : pc + 1 = q := by rfl) : Ends p e below s Qb kc ks T (mkF m pc Ls (.int y :: .int x :: st)) := by
  subst hq; exact Ends.go (fun t => XS.idiv X.here hx rfl hd rfl hy) k'
theorem E.irem {x y : Int32} (X : Stand p l e R s m args below meth c T locs cells slots) (hx : p.tables.exec = Jvm.exec) (hd : decode c.code pc = .ok (.irem, 1)) (hy : ¬ y = 0) (k' : Ends p e below s Qb kc ks T (mkF m q Ls (.int (x % y) :: st))) (hq : pc + 1 = q := by rfl) : Ends p e below s Qb kc ks T (mkF m pc Ls (.int y :: .int x :: st)) := by
  subst hq; exact Ends.go (fun t => iremM X hx rfl hd rfl hy) k'
theorem E.ldiv {x y : Int64} (X : Stand p l e R s m args below meth c T locs cells slots) (hx : p.tables.exec = Jvm.exec) (hd : decode c.code pc = .ok (.ldiv, 1)) (hy : ¬ y = 0) (k' : Ends p e below s Qb kc ks T (mkF m q Ls (.long (x / y) :: st))) (hq : pc + 1 = q := by rfl) : Ends p e below s Qb kc ks T (mkF m pc Ls (.long y :: .long x :: st)) := by
  subst hq; exact Ends.go (fun t => XS.ldiv X.here hx rfl hd rfl hy) k'
theorem E.lrem {x y : Int64} (X : Stand p l e R s m args below meth c T locs cells slots) (hx : p.tables.exec = Jvm.exec) (hd : decode c.code pc = .ok (.lrem, 1)) (hy : ¬ y = 0) (k' : Ends p e below s Qb kc ks T (mkF m q Ls (.long (x - (x / y) * y) :: st))) (hq : pc + 1 = q := by rfl) : Ends p e below s Qb kc ks T (mkF m pc Ls (.long y :: .long x :: st)) := by
  subst hq; exact Ends.go (fun t => XS.lrem X.here hx rfl hd rfl hy) k'
theorem E.iinc {x v : Int32} {cst : Int} (X : Stand p l e R s m args below meth c T locs cells slots) (hx : p.tables.exec = Jvm.exec) (hd : decode c.code pc = .ok (.iinc k cst, 3)) (hl : Ls[k]? = some (.val (.int x))) (hv : x + Int32.ofInt cst = v) (hl' : storeLocals Ls k (.int v) = some l') (k' : Ends p e below s Qb kc ks T (mkF m q l' st)) (hq : pc + 3 = q := by rfl) : Ends p e below s Qb kc ks T (mkF m pc Ls st) := by
  subst hq; subst hv; exact Ends.go (fun t => XS.iinc X.here hx rfl hd hl hl') k'
theorem E.dup {v : Value} (X : Stand p l e R s m args below meth c T locs cells slots) (hx : p.tables.exec = Jvm.exec) (hd : decode c.code pc = .ok (.dup, 1)) (hc : v.category = 1) (k' : Ends p e below s Qb kc ks T (mkF m q Ls (v :: v :: st))) (hq : pc + 1 = q := by rfl) : Ends p e below s Qb kc ks T (mkF m pc Ls (v :: st)) := by
  subst hq; exact Ends.go (fun t => XS.dup X.here hx rfl hd rfl hc) k'
theorem E.pop {v : Value} (X : Stand p l e R s m args below meth c T locs cells slots) (hx : p.tables.exec = Jvm.exec) (hd : decode c.code pc = .ok (.pop, 1)) (hc : v.category = 1) (k' : Ends p e below s Qb kc ks T (mkF m q Ls st)) (hq : pc + 1 = q := by rfl) : Ends p e below s Qb kc ks T (mkF m pc Ls (v :: st)) := by
  subst hq; exact Ends.go (fun t => XS.pop X.here hx rfl hd rfl hc) k'
theorem E.dupX1 {v w : Value} (X : Stand p l e R s m args below meth c T locs cells slots) (hx : p.tables.exec = Jvm.exec) (hd : decode c.code pc = .ok (.dup_x1, 1)) (hc : v.category = 1) (hc2 : w.category = 1) (k' : Ends p e below s Qb kc ks T (mkF m q Ls (v :: w :: v :: st))) (hq : pc + 1 = q := by rfl) : Ends p e below s Qb kc ks T (mkF m pc Ls (v :: w :: st)) := by
  subst hq; exact Ends.go (fun t => XS.dupX1 X.here hx rfl hd rfl hc hc2) k'
theorem E.icmpY {x y : Int32} {cd : ClassFile.Cond} {o : Int} (X : Stand p l e R s m args below meth c T locs cells slots) (hx : p.tables.exec = Jvm.exec) (hd : decode c.code pc = .ok (.if_icmp cd o, 3)) (hc : if_icmp.holds cd x y = true) (k' : Ends p e below s Qb kc ks T (mkF m q Ls st)) (ho : 0 ≤ (pc : Int) + o := by decide) (hq : ((pc : Int) + o).toNat = q := by decide) : Ends p e below s Qb kc ks T (mkF m pc Ls (.int y :: .int x :: st)) :=
  Ends.go (fun t => XS.icmpYes X.here hx rfl rfl hd rfl hc ho hq) k'
theorem E.icmpN {x y : Int32} {cd : ClassFile.Cond} {o : Int} (X : Stand p l e R s m args below meth c T locs cells slots) (hx : p.tables.exec = Jvm.exec) (hd : decode c.code pc = .ok (.if_icmp cd o, 3)) (hc : if_icmp.holds cd x y = false) (k' : Ends p e below s Qb kc ks T (mkF m q Ls st)) (hq : pc + 3 = q := by rfl) : Ends p e below s Qb kc ks T (mkF m pc Ls (.int y :: .int x :: st)) := by
  subst hq; exact Ends.go (fun t => XS.icmpNo X.here hx rfl hd rfl hc) k'
theorem E.ifY {x : Int32} {cd : ClassFile.Cond} {o : Int} (X : Stand p l e R s m args below meth c T locs cells slots) (hx : p.tables.exec = Jvm.exec) (hd : decode c.code pc = .ok (.ifCond cd o, 3)) (hc : ifCond.holds cd x = true) (k' : Ends p e below s Qb kc ks T (mkF m q Ls st)) (ho : 0 ≤ (pc : Int) + o := by decide) (hq : ((pc : Int) + o).toNat = q := by decide) : Ends p e below s Qb kc ks T (mkF m pc Ls (.int x :: st)) :=
  Ends.go (fun t => XS.ifYes X.here hx rfl rfl hd rfl hc ho hq) k'
theorem E.ifN {x : Int32} {cd : ClassFile.Cond} {o : Int} (X : Stand p l e R s m args below meth c T locs cells slots) (hx : p.tables.exec = Jvm.exec) (hd : decode c.code pc = .ok (.ifCond cd o, 3)) (hc : ifCond.holds cd x = false) (k' : Ends p e below s Qb kc ks T (mkF m q Ls st)) (hq : pc + 3 = q := by rfl) : Ends p e below s Qb kc ks T (mkF m pc Ls (.int x :: st)) := by
  subst hq; exact Ends.go (fun t => XS.ifNo X.here hx rfl hd rfl hc) k'
theorem E.goto {o : Int} (X : Stand p l e R s m args below meth c T locs cells slots) (hx : p.tables.exec = Jvm.exec) (hd : decode c.code pc = .ok (.goto o, 3)) (k' : Ends p e below s Qb kc ks T (mkF m q Ls st)) (ho : 0 ≤ (pc : Int) + o := by decide) (hq : ((pc : Int) + o).toNat = q := by decide) : Ends p e below s Qb kc ks T (mkF m pc Ls st) :=
  Ends.go (fun t => XS.goto X.here hx rfl rfl hd ho hq) k'
theorem E.nullY {o : Int} (X : Stand p l e R s m args below meth c T locs cells slots) (hx : p.tables.exec = Jvm.exec) (hd : decode c.code pc = .ok (.ifnull o, 3)) (k' : Ends p e below s Qb kc ks T (mkF m q Ls st)) (ho : 0 ≤ (pc : Int) + o := by decide) (hq : ((pc : Int) + o).toNat = q := by decide) : Ends p e below s Qb kc ks T (mkF m pc Ls (.null :: st)) :=
  Ends.go (fun t => XS.ifnullYes X.here hx rfl rfl hd rfl ho hq) k'
theorem E.nullN {o : Int} {b : Addr} (X : Stand p l e R s m args below meth c T locs cells slots) (hx : p.tables.exec = Jvm.exec) (hd : decode c.code pc = .ok (.ifnull o, 3)) (k' : Ends p e below s Qb kc ks T (mkF m q Ls st)) (hq : pc + 3 = q := by rfl) : Ends p e below s Qb kc ks T (mkF m pc Ls (.ref b :: st)) := by
  subst hq; exact Ends.go (fun t => XS.ifnullNo X.here hx rfl hd rfl) k'
theorem E.nonnullY {o : Int} {b : Addr} (X : Stand p l e R s m args below meth c T locs cells slots) (hx : p.tables.exec = Jvm.exec) (hd : decode c.code pc = .ok (.ifnonnull o, 3)) (k' : Ends p e below s Qb kc ks T (mkF m q Ls st)) (ho : 0 ≤ (pc : Int) + o := by decide) (hq : ((pc : Int) + o).toNat = q := by decide) : Ends p e below s Qb kc ks T (mkF m pc Ls (.ref b :: st)) :=
  Ends.go (fun t => XS.ifnonnullYes X.here hx rfl rfl hd rfl ho hq) k'
theorem E.nonnullN {o : Int} (X : Stand p l e R s m args below meth c T locs cells slots) (hx : p.tables.exec = Jvm.exec) (hd : decode c.code pc = .ok (.ifnonnull o, 3)) (k' : Ends p e below s Qb kc ks T (mkF m q Ls st)) (hq : pc + 3 = q := by rfl) : Ends p e below s Qb kc ks T (mkF m pc Ls (.null :: st)) := by
  subst hq; exact Ends.go (fun t => XS.ifnonnullNo X.here hx rfl hd rfl) k'
theorem E.ldc {v : Int32} {own : String} {index : Nat} (X : Stand p l e R s m args below meth c T locs cells slots) (hx : p.tables.exec = Jvm.exec) (hZ : Z.Warmed39 s.vm) (hown : s.vm.findClass own = some m.cls) (hc : (Jvm.Cond.constant own index v).before a0 Z = true) (hd : decode c.code pc = .ok (.ldc index, 2)) (k' : Ends p e below s Qb kc ks T (mkF m q Ls (.int v :: st))) (hq : pc + 2 = q := by rfl) : Ends p e below s Qb kc ks T (mkF m pc Ls st) := by
  subst hq; exact Ends.go (fun t => X.ldcI hx hown (mvT hZ hc) rfl hd) k'
theorem E.ldcW {v : Int32} {own : String} {index : Nat} (X : Stand p l e R s m args below meth c T locs cells slots) (hx : p.tables.exec = Jvm.exec) (hZ : Z.Warmed39 s.vm) (hown : s.vm.findClass own = some m.cls) (hc : (Jvm.Cond.constant own index v).before a0 Z = true) (hd : decode c.code pc = .ok (.ldc_w index, 3)) (k' : Ends p e below s Qb kc ks T (mkF m q Ls (.int v :: st))) (hq : pc + 3 = q := by rfl) : Ends p e below s Qb kc ks T (mkF m pc Ls st) := by
  subst hq; exact Ends.go (fun t => X.ldcWI hx hown (mvT hZ hc) rfl hd) k'
theorem E.ldc2 {v : Int64} {own : String} {index : Nat} (X : Stand p l e R s m args below meth c T locs cells slots) (hx : p.tables.exec = Jvm.exec) (hZ : Z.Warmed39 s.vm) (hown : s.vm.findClass own = some m.cls) (hc : (Jvm.Cond.constantLong own index v).before a0 Z = true) (hd : decode c.code pc = .ok (.ldc2_w index, 3)) (k' : Ends p e below s Qb kc ks T (mkF m q Ls (.long v :: st))) (hq : pc + 3 = q := by rfl) : Ends p e below s Qb kc ks T (mkF m pc Ls st) := by
  subst hq; exact Ends.go (fun t => X.ldc2J hx hown (mvT hZ hc) rfl hd) k'
end OwnSteps
/-! own text: arrays by their whole contents; what a body may have done to the heap -/
section OwnHeap
variable {p : Program} {l : Launch} {e : Env} {R : Room} {s : State} {m : MethodId} {args : Array Value} {below : List Frame} {meth : Method} {c : Code} {T : State} {locs : List Loc} {cells slots : Nat} {Z : State} {a0 : Array Value} {h h' h0 : Heap} {Qb : Option Value → Heap → List Loc → Prop} {kc ks : Nat} {a b : Addr} {ty : FieldType} {vs : List Value} {v : Value} {sl i : Nat} {ws ws' : List Addr} {L L' : List Loc} {pc : Nat} {Ls : Array Slot} {st : List Value} {j : Int32}
def Ary (Z : State) (h : Heap) (a : Addr) (ty : FieldType) (vs : List Value) : Prop := ∃ c : Cell, Arr Z h a c ty ∧ c.slots = vs.toArray ∧ vs.length < 2 ^ 31
theorem Ary.lt (A : Ary Z h a ty vs) : a < h.size := by obtain ⟨c, A, -⟩ := A; exact A.lt
theorem Ary.ext (E : Ext h h') (A : Ary Z h a ty vs) : Ary Z h' a ty vs := by obtain ⟨c, A, r⟩ := A; exact ⟨c, A.ext E, r⟩
theorem Ary.other (W : Wr h h' b sl v) (A : Ary Z h a ty vs) (q : a ≠ b) : Ary Z h' a ty vs := by obtain ⟨c, A, r⟩ := A; exact ⟨c, Arr.other W A q, r⟩
theorem Ary.keep (A : Ary Z h a ty vs) (K : Keep h h' ws) (q : a ∉ ws) : Ary Z h' a ty vs := by obtain ⟨c, A, r⟩ := A; exact ⟨c, ⟨K.2.1 a c A.1 q, A.2⟩, r⟩
theorem Ary.set (A : Ary Z h a ty vs) (W : Wr h h' a i v) : Ary Z h' a ty (vs.set i v) := by
  obtain ⟨c, A, e, l⟩ := A
  refine ⟨c.setSlot i v, Arr.same W A, ?_, by rw [List.length_set]; exact l⟩
  show c.slots.setIfInBounds i v = _
  rw [e]; simp
theorem own_ofNat {i : Nat} (h : i < 2 ^ 31) : (Int32.ofNat i).toInt = (i : Int) := by
  rw [Int32.toInt_ofNat_of_lt h]
theorem own_clamp {i : Nat} (h : i < 2 ^ 31) : (Int32.ofNat i).toNatClampNeg = i ∧ ¬ (Int32.ofNat i) < 0 := by
  have q := own_ofNat h
  refine ⟨?_, ?_⟩
  · show (Int32.ofNat i).toInt.toNat = i
    omega
  · rw [Int32.lt_iff_toInt_lt]
    have : (0 : Int32).toInt = 0 := by decide
    omega
theorem Ary.new {k : ClassId} {n : Int32} {N : Nat} (A : Arr Z h a (newA k ty n) ty) (hn : n = Int32.ofNat N) (hN : N < 2 ^ 31) : Ary Z h a ty (List.replicate N (defaultValue ty)) := by
  refine ⟨_, A, ?_, by rw [List.length_replicate]; exact hN⟩
  subst hn
  show Array.replicate (Int32.ofNat N).toNatClampNeg (defaultValue ty) = _
  rw [(own_clamp hN).1]; simp
theorem own_inb {c : Cell} (e : c.slots = vs.toArray) (l : vs.length < 2 ^ 31) (hj : j = Int32.ofNat i) (hi : i < vs.length) : ¬ (j < 0 ∨ c.slots.size ≤ j.toNatClampNeg) := by
  subst hj
  have q := own_clamp (i := i) (by omega)
  rw [q.1, e]
  rintro (r | r)
  · exact q.2 r
  · simp at r; omega
theorem own_at {c : Cell} (e : c.slots = vs.toArray) (l : vs.length < 2 ^ 31) (hj : j = Int32.ofNat i) (hv : vs[i]? = some v) : ¬ (j < 0 ∨ c.slots.size ≤ j.toNatClampNeg) ∧ c.slots[j.toNatClampNeg]? = some v := by
  have hi : i < vs.length := (List.getElem?_eq_some_iff.mp hv).1
  refine ⟨own_inb e l hj hi, ?_⟩
  subst hj
  rw [(own_clamp (i := i) (by omega)).1, e]
  simpa using hv
/-- what the walk has done so far: of the elder cells only those in ws are written -/
def Ok (h0 h : Heap) (ws : List Addr) (L : List Loc) : Prop := Keep h0 h ws ∧ ∀ y ∈ L, y.base ∈ ws ∨ h0.size ≤ y.base
theorem Ok.refl (h : Heap) (ws : List Addr) : Ok h h ws [] := ⟨Keep.refl h ws, fun _ q => nomatch q⟩
theorem Ok.ext (O : Ok h0 h ws L) (E : Ext h h') : Ok h0 h' ws L := ⟨O.1.ext E, O.2⟩
theorem Ok.wr (O : Ok h0 h ws L) (W : Wr h h' a sl v) (q : a ∈ ws ∨ h0.size ≤ a) : Ok h0 h' ws (L ++ [⟨a, sl⟩]) :=
  ⟨O.1.wr W q, fun y hy => (List.mem_append.mp hy).elim (O.2 y) fun r => by cases List.mem_singleton.mp r; exact q⟩
theorem Ok.call (O : Ok h0 h ws L) (O' : Ok h h' ws' L') (q : ∀ x ∈ ws', x ∈ ws ∨ h0.size ≤ x) : Ok h0 h' ws (L ++ L') :=
  ⟨O.1.trans O'.1 q, fun y hy => (List.mem_append.mp hy).elim (O.2 y) fun r => (O'.2 y r).elim (q _) fun u => Or.inr (Nat.le_trans O.1.1 u)⟩
theorem Ok.fr (O : Ok h0 h [] L) : Fr h0.size L := fun y hy => (O.2 y hy).elim (fun q => nomatch q) id
theorem Ok.le (O : Ok h0 h ws L) : h0.size ≤ h.size := O.1.1
theorem Ends.alen (X : Stand p l e R s m args below meth c T locs cells slots) (hx : p.tables.exec = Jvm.exec) (hZ : Z.Warmed39 s.vm) (eT : T.heap = h) (A : Ary Z h a ty vs) (hd : decode c.code pc = .ok (.arraylength, 1)) {n : Int32} (hn : Int32.ofNat vs.length = n)
    (k : Ends p e below s Qb kc ks T (mkF m (pc + 1) Ls (.int n :: st))) : Ends p e below s Qb kc ks T (mkF m pc Ls (.ref a :: st)) := by
  obtain ⟨cl, A, q, -⟩ := A
  refine Ends.go (fun t => X.arraylength hx (cell := cl) (by rw [eT]; exact A.1) (State.isArrayOf_alike hZ.alike A.2.1) (g := mkF m pc Ls (.ref a :: st)) rfl (rest := st) rfl hd t) ?_
  have e1 : cl.slots.size.toInt32 = n := by rw [q, ← hn]; simp
  rw [e1]; exact k
theorem Ends.ild (X : Stand p l e R s m args below meth c T locs cells slots) (hx : p.tables.exec = Jvm.exec) (hZ : Z.Warmed39 s.vm) (eT : T.heap = h) (A : Ary Z h a .int vs) (hj : j = Int32.ofNat i) (hv : vs[i]? = some v) (hd : decode c.code pc = .ok (.iaload, 1))
    (k : Ends p e below s Qb kc ks T (mkF m (pc + 1) Ls (v :: st))) : Ends p e below s Qb kc ks T (mkF m pc Ls (.int j :: .ref a :: st)) := by
  obtain ⟨cl, A, q, q2⟩ := A
  obtain ⟨r1, r2⟩ := own_at q q2 hj hv
  exact Ends.go (fun t => X.iaload hx (by rw [eT]; exact A.1) (State.isArrayOf_alike hZ.alike A.2.1) A.2.2 r1 r2 (g := mkF m pc Ls (.int j :: .ref a :: st)) rfl rfl hd t) k
theorem Ends.cld (X : Stand p l e R s m args below meth c T locs cells slots) (hx : p.tables.exec = Jvm.exec) (hZ : Z.Warmed39 s.vm) (eT : T.heap = h) (A : Ary Z h a .char vs) (hj : j = Int32.ofNat i) (hv : vs[i]? = some v) (hd : decode c.code pc = .ok (.caload, 1))
    (k : Ends p e below s Qb kc ks T (mkF m (pc + 1) Ls (v :: st))) : Ends p e below s Qb kc ks T (mkF m pc Ls (.int j :: .ref a :: st)) := by
  obtain ⟨cl, A, q, q2⟩ := A
  obtain ⟨r1, r2⟩ := own_at q q2 hj hv
  exact Ends.go (fun t => X.caload hx (by rw [eT]; exact A.1) (State.isArrayOf_alike hZ.alike A.2.1) A.2.2 r1 r2 (g := mkF m pc Ls (.int j :: .ref a :: st)) rfl rfl hd t) k
theorem Ends.bld (X : Stand p l e R s m args below meth c T locs cells slots) (hx : p.tables.exec = Jvm.exec) (hZ : Z.Warmed39 s.vm) (eT : T.heap = h) (A : Ary Z h a .byte vs) (hj : j = Int32.ofNat i) (hv : vs[i]? = some v) (hd : decode c.code pc = .ok (.baload, 1))
    (k : Ends p e below s Qb kc ks T (mkF m (pc + 1) Ls (v :: st))) : Ends p e below s Qb kc ks T (mkF m pc Ls (.int j :: .ref a :: st)) := by
  obtain ⟨cl, A, q, q2⟩ := A
  obtain ⟨r1, r2⟩ := own_at q q2 hj hv
  exact Ends.go (fun t => X.baloadBytes hx (by rw [eT]; exact A.1) (State.isArrayOf_alike hZ.alike A.2.1) A.2.2 r1 r2 (g := mkF m pc Ls (.int j :: .ref a :: st)) rfl rfl hd t) k
theorem Ends.dld (X : Stand p l e R s m args below meth c T locs cells slots) (hx : p.tables.exec = Jvm.exec) (hZ : Z.Warmed39 s.vm) (eT : T.heap = h) (A : Ary Z h a .double vs) (hj : j = Int32.ofNat i) (hv : vs[i]? = some v) (hd : decode c.code pc = .ok (.daload, 1))
    (k : Ends p e below s Qb kc ks T (mkF m (pc + 1) Ls (v :: st))) : Ends p e below s Qb kc ks T (mkF m pc Ls (.int j :: .ref a :: st)) := by
  obtain ⟨cl, A, q, q2⟩ := A
  obtain ⟨r1, r2⟩ := own_at q q2 hj hv
  exact Ends.go (fun t => X.daload hx (by rw [eT]; exact A.1) (State.isArrayOf_alike hZ.alike A.2.1) A.2.2 r1 r2 (g := mkF m pc Ls (.int j :: .ref a :: st)) rfl rfl hd t) k
theorem Ends.ald (X : Stand p l e R s m args below meth c T locs cells slots) (hx : p.tables.exec = Jvm.exec) (hZ : Z.Warmed39 s.vm) (eT : T.heap = h) (A : Ary Z h a ty vs) (hty : ty.isReference = true) (hj : j = Int32.ofNat i) (hv : vs[i]? = some v) (hd : decode c.code pc = .ok (.aaload, 1))
    (k : Ends p e below s Qb kc ks T (mkF m (pc + 1) Ls (v :: st))) : Ends p e below s Qb kc ks T (mkF m pc Ls (.int j :: .ref a :: st)) := by
  obtain ⟨cl, A, q, q2⟩ := A
  obtain ⟨r1, r2⟩ := own_at q q2 hj hv
  exact Ends.go (fun t => X.aaload hx (by rw [eT]; exact A.1) (State.isArrayOf_alike hZ.alike A.2.1) hty A.2.2 r1 r2 (g := mkF m pc Ls (.int j :: .ref a :: st)) rfl rfl hd t) k
theorem Ends.ist (X : Stand p l e R s m args below meth c T locs cells slots) (hx : p.tables.exec = Jvm.exec) (hZ : Z.Warmed39 s.vm) (eT : T.heap = h) (A : Ary Z h a .int vs) {x : Int32} (hj : j = Int32.ofNat i) (hi : i < vs.length) (hd : decode c.code pc = .ok (.iastore, 1))
    (k : ∀ T' h', Stand p l e R s m args below meth c T' (locs ++ [⟨a, i⟩]) cells slots → T'.heap = h' → Wr h h' a i (.int x) → Ary Z h' a .int (vs.set i (.int x)) → Ends p e below s Qb kc ks T' (mkF m (pc + 1) Ls st)) : Ends p e below s Qb kc ks T (mkF m pc Ls (.int x :: .int j :: .ref a :: st)) := by
  obtain ⟨cl, A', q, q2⟩ := id A
  obtain ⟨T', h', X', e', W, st'⟩ := stI X hx hZ eT A' (j := j) (own_inb q q2 hj hi) (g := mkF m pc Ls (.int x :: .int j :: .ref a :: st)) rfl rfl hd
  have hc : j.toNatClampNeg = i := by rw [hj]; exact (own_clamp (by omega)).1
  rw [hc] at X' W
  exact Ends.go st' (k T' h' X' e' W (A.set W))
theorem Ends.cst (X : Stand p l e R s m args below meth c T locs cells slots) (hx : p.tables.exec = Jvm.exec) (hZ : Z.Warmed39 s.vm) (eT : T.heap = h) (A : Ary Z h a .char vs) {x x' : Int32} (hxx : nar .char x = x') (hj : j = Int32.ofNat i) (hi : i < vs.length) (hd : decode c.code pc = .ok (.castore, 1))
    (k : ∀ T' h', Stand p l e R s m args below meth c T' (locs ++ [⟨a, i⟩]) cells slots → T'.heap = h' → Wr h h' a i (.int x') → Ary Z h' a .char (vs.set i (.int x')) → Ends p e below s Qb kc ks T' (mkF m (pc + 1) Ls st)) : Ends p e below s Qb kc ks T (mkF m pc Ls (.int x :: .int j :: .ref a :: st)) := by
  obtain ⟨cl, A', q, q2⟩ := id A
  obtain ⟨T', h', X', e', W, st'⟩ := stC X hx hZ eT A' (j := j) (own_inb q q2 hj hi) (g := mkF m pc Ls (.int x :: .int j :: .ref a :: st)) rfl rfl hd
  have hc : j.toNatClampNeg = i := by rw [hj]; exact (own_clamp (by omega)).1
  rw [hc] at X' W
  rw [hxx] at W
  exact Ends.go st' (k T' h' X' e' W (A.set W))
theorem Ends.bst (X : Stand p l e R s m args below meth c T locs cells slots) (hx : p.tables.exec = Jvm.exec) (hZ : Z.Warmed39 s.vm) (eT : T.heap = h) (A : Ary Z h a .byte vs) {x x' : Int32} (hxx : nar .byte x = x') (hj : j = Int32.ofNat i) (hi : i < vs.length) (hd : decode c.code pc = .ok (.bastore, 1))
    (k : ∀ T' h', Stand p l e R s m args below meth c T' (locs ++ [⟨a, i⟩]) cells slots → T'.heap = h' → Wr h h' a i (.int x') → Ary Z h' a .byte (vs.set i (.int x')) → Ends p e below s Qb kc ks T' (mkF m (pc + 1) Ls st)) : Ends p e below s Qb kc ks T (mkF m pc Ls (.int x :: .int j :: .ref a :: st)) := by
  obtain ⟨cl, A', q, q2⟩ := id A
  obtain ⟨T', h', X', e', W, st'⟩ := stB X hx hZ eT A' (j := j) (own_inb q q2 hj hi) (g := mkF m pc Ls (.int x :: .int j :: .ref a :: st)) rfl rfl hd
  have hc : j.toNatClampNeg = i := by rw [hj]; exact (own_clamp (by omega)).1
  rw [hc] at X' W
  rw [hxx] at W
  exact Ends.go st' (k T' h' X' e' W (A.set W))
theorem Ends.dst (X : Stand p l e R s m args below meth c T locs cells slots) (hx : p.tables.exec = Jvm.exec) (hZ : Z.Warmed39 s.vm) (eT : T.heap = h) (A : Ary Z h a .double vs) {x : UInt64} (hj : j = Int32.ofNat i) (hi : i < vs.length) (hd : decode c.code pc = .ok (.dastore, 1))
    (k : ∀ T' h', Stand p l e R s m args below meth c T' (locs ++ [⟨a, i⟩]) cells slots → T'.heap = h' → Wr h h' a i (.double x) → Ary Z h' a .double (vs.set i (.double x)) → Ends p e below s Qb kc ks T' (mkF m (pc + 1) Ls st)) : Ends p e below s Qb kc ks T (mkF m pc Ls (.double x :: .int j :: .ref a :: st)) := by
  obtain ⟨cl, A', q, q2⟩ := id A
  obtain ⟨T', h', X', e', W, st'⟩ := stD X hx hZ eT A' (j := j) (own_inb q q2 hj hi) (g := mkF m pc Ls (.double x :: .int j :: .ref a :: st)) rfl rfl hd
  have hc : j.toNatClampNeg = i := by rw [hj]; exact (own_clamp (by omega)).1
  rw [hc] at X' W
  exact Ends.go st' (k T' h' X' e' W (A.set W))
theorem Ends.newA (X : Stand p l e R s m args below meth c T locs cells slots) (hx : p.tables.exec = Jvm.exec) (hZ : Z.Warmed39 s.vm) {aty : ArrayType} (w : (Jvm.Cond.arrayClass (newarray.typeOf aty)).before a0 Z = true) (eT : T.heap = h) (hd : decode c.code pc = .ok (.newarray aty, 2)) {n : Int32} {N : Nat} (hn : n = Int32.ofNat N) (hN : N * 8 ≤ 536870912) (hc : cells + 1 ≤ R.cells) (hl : slots + N ≤ R.slots)
    (k : ∀ T' h' b, b = h.size → Stand p l e R s m args below meth c T' locs (cells + 1) (slots + N) → T'.heap = h' → Ext h h' → Ary Z h' b (newarray.typeOf aty) (List.replicate N (defaultValue (newarray.typeOf aty))) → Ends p e below s Qb kc ks T' (mkF m (pc + 2) Ls (.ref b :: st))) : Ends p e below s Qb kc ks T (mkF m pc Ls (.int n :: st)) := by
  have q := own_clamp (i := N) (by omega)
  obtain ⟨T', h', cA, X', e', E, A, st'⟩ := newP X hx hZ w eT (g := mkF m pc Ls (.int n :: st)) rfl hd rfl (by rw [hn]; exact q.2) (cap := N) (by rw [hn, q.1]; exact Nat.le_refl _) hN hc hl
  exact Ends.go st' (k T' h' _ rfl X' e' E (Ary.new A hn (by omega)))
theorem Ends.newC (X : Stand p l e R s m args below meth c T locs cells slots) (hx : p.tables.exec = Jvm.exec) (hZ : Z.Warmed39 s.vm) {own C : String} {index n : Nat} (hown : s.vm.findClass own = some m.cls) (w : (Jvm.Cond.classLink own index C).before a0 Z = true) (wi : (Jvm.Cond.instantiable C n).before a0 Z = true) (wz : (Jvm.Cond.initialized C).before a0 Z = true) (eT : T.heap = h) (hd : decode c.code pc = .ok (.new index, 3)) (hc : cells + 1 ≤ R.cells) (hl : slots + n ≤ R.slots)
    (k : ∀ T' h' b, b = h.size → Stand p l e R s m args below meth c T' locs (cells + 1) (slots + n) → T'.heap = h' → Ext h h' → Exa Z h' b C → (∀ {O nm d : String} {ty : FieldType}, Laid Z a0 C O nm d → parseFieldDescriptor d = some ty → Fld Z h' b O nm d (defaultValue ty)) → Ends p e below s Qb kc ks T' (mkF m (pc + 3) Ls (.ref b :: st))) : Ends p e below s Qb kc ks T (mkF m pc Ls st) := by
  obtain ⟨T', h', X', e', E, A, D, -, st'⟩ := newO X hx hZ hown w wi wz eT (g := mkF m pc Ls st) rfl hd hc hl
  exact Ends.go st' (k T' h' _ rfl X' e' E A D)
end OwnHeap
section OwnHeap2
variable {p : Program} {l : Launch} {e : Env} {R : Room} {s : State} {m : MethodId} {args : Array Value} {below : List Frame} {meth : Method} {c : Code} {T : State} {locs : List Loc} {cells slots : Nat} {Z : State} {a0 : Array Value} {h h' h0 : Heap} {Qb : Option Value → Heap → List Loc → Prop} {kc ks : Nat} {a b : Addr} {ty : FieldType} {v v' old : Value} {pc index kk : Nat} {Ls : Array Slot} {st : List Value} {own R0 O n d host C : String}
theorem Ends.getF (X : Stand p l e R s m args below meth c T locs cells slots) (hx : p.tables.exec = Jvm.exec) (hZ : Z.Warmed39 s.vm) (hown : s.vm.findClass own = some m.cls) (w : (Jvm.Cond.fieldLink own index R0 n d).before a0 Z = true ∨ (Jvm.Cond.fieldLinkNest own index R0 n d host).before a0 Z = true) (via : Via Z R0 O n d) (eT : T.heap = h) (F : Fld Z h a O n d v) (hd : decode c.code pc = .ok (.getfield index, 3))
    (k : ∀ T', Stand p l e R s m args below meth c T' locs cells slots → T'.heap = h → Ends p e below s Qb kc ks T' (mkF m (pc + 3) Ls (v :: st))) : Ends p e below s Qb kc ks T (mkF m pc Ls (.ref a :: st)) := by
  obtain ⟨T', X', e', st'⟩ := Jvm.RoadKit.getF X hx hZ hown w via eT F (g := mkF m pc Ls (.ref a :: st)) rfl rfl hd
  exact Ends.go st' (k T' X' e')
theorem Ends.putF (X : Stand p l e R s m args below meth c T locs cells slots) (hx : p.tables.exec = Jvm.exec) (hZ : Z.Warmed39 s.vm) (hown : s.vm.findClass own = some m.cls) (w : (Jvm.Cond.fieldLink own index R0 n d).before a0 Z = true ∨ (Jvm.Cond.fieldLinkNest own index R0 n d host).before a0 Z = true) (via : Via Z R0 O n d) (eT : T.heap = h) (F : Fld Z h a O n d old) (E : Exa Z h a C) (L : (Jvm.Cond.lays C O n d).before a0 Z = true ∨ ((Jvm.Cond.laysFinal C O n d).before a0 Z = true ∧ own = O ∧ meth.name = "<init>")) (wi : (Jvm.Cond.instantiable C kk).before a0 Z = true) (hty : parseFieldDescriptor d = some ty) (hn : narrow ty v = v) (hf : fits ty v = true) (hd : decode c.code pc = .ok (.putfield index, 3))
    (k : ∀ T' h', Stand p l e R s m args below meth c T' (locs ++ [⟨a, Jvm.RoadKit.slotOf Z O n d⟩]) cells slots → T'.heap = h' → Wr h h' a (Jvm.RoadKit.slotOf Z O n d) v → Fld Z h' a O n d v → Ends p e below s Qb kc ks T' (mkF m (pc + 3) Ls st)) : Ends p e below s Qb kc ks T (mkF m pc Ls (v :: .ref a :: st)) := by
  obtain ⟨T', h', X', e', W, st'⟩ := Jvm.RoadKit.putF X hx hZ hown w via eT F E L wi hty hn hf (g := mkF m pc Ls (v :: .ref a :: st)) rfl rfl hd
  exact Ends.go st' (k T' h' X' e' W (F.same W))
theorem Ends.putN (X : Stand p l e R s m args below meth c T locs cells slots) (hx : p.tables.exec = Jvm.exec) (hZ : Z.Warmed39 s.vm) (hown : s.vm.findClass own = some m.cls) (w : (Jvm.Cond.fieldLink own index R0 n d).before a0 Z = true) (via : Via Z R0 O n d) (eT : T.heap = h) (F : Fld Z h a O n d old) (E : Exa Z h a C) (L : (Jvm.Cond.lays C O n d).before a0 Z = true ∨ ((Jvm.Cond.laysFinal C O n d).before a0 Z = true ∧ own = O ∧ meth.name = "<init>")) (wi : (Jvm.Cond.instantiable C kk).before a0 Z = true) (hty : parseFieldDescriptor d = some ty) (hn : narrow ty v = v') (hf : fits ty v' = true) (hd : decode c.code pc = .ok (.putfield index, 3))
    (k : ∀ T' h', Stand p l e R s m args below meth c T' (locs ++ [⟨a, Jvm.RoadKit.slotOf Z O n d⟩]) cells slots → T'.heap = h' → Wr h h' a (Jvm.RoadKit.slotOf Z O n d) v' → Fld Z h' a O n d v' → Ends p e below s Qb kc ks T' (mkF m (pc + 3) Ls st)) : Ends p e below s Qb kc ks T (mkF m pc Ls (v :: .ref a :: st)) := by
  obtain ⟨T', h', X', e', W, st'⟩ := Jvm.RoadKit.putFN X hx hZ hown w via eT F E L wi hty hn hf (g := mkF m pc Ls (v :: .ref a :: st)) rfl rfl hd
  exact Ends.go st' (k T' h' X' e' W (F.same W))
theorem Ends.initO (X : Stand p l e R s m args below meth c T locs cells slots) (hx : p.tables.exec = Jvm.exec) (hZ : Z.Warmed39 s.vm) (hown : s.vm.findClass own = some m.cls) (w1 : (Jvm.Cond.methodLink own index Lib.objectInit).before a0 Z = true) (w2 : (Jvm.Cond.instanceMethod Lib.objectInit).before a0 Z = true) (w3 : (Jvm.Cond.code Lib.objectInit ⟨#[0xb1]⟩ 1 none).before a0 Z = true) (eT : T.heap = h) (hsz : Ls.size = c.maxLocals) (hd : decode c.code pc = .ok (.invokespecial index, 3)) (hf : 1 ≤ R.frames) {W : Nat} (hW : (st.map fun v => v.category).sum ≤ W) (hl : W + 12 ≤ R.locals)
    (k : ∀ T', Stand p l e R s m args below meth c T' locs cells slots → T'.heap = h → Ends p e below s Qb kc ks T' (mkF m (pc + 3) Ls st)) : Ends p e below s Qb kc ks T (mkF m pc Ls (.ref a :: st)) := by
  obtain ⟨T', X', e', st'⟩ := Jvm.RoadKit.initO X hx hZ hown w1 w2 w3 eT (g := mkF m pc Ls (.ref a :: st)) rfl hsz rfl hd hf (W := W) (by show 2 * 0 + _ ≤ _; omega) hl
  exact Ends.go st' (k T' X' e')
end OwnHeap2
def own_min (a b : Int32) : Int32 := if b < a then b else a
def own_kk (t p : Int32) : Int64 := ((t.toInt64 <<< ((32 : Int32) &&& 0x3f).toInt64) ||| p.toInt64)
theorem own_kk_eq {t p : Int32} (ht : 0 ≤ t.toInt) (hp : 0 ≤ p.toInt) : (own_kk t p).toInt = t.toInt * 4294967296 + p.toInt := by
  have h1 := c_lshl t.toInt64 32 32 (by decide)
  have h2 := c_i2l t
  have h3 := c_i2l p
  have r1 := rng32 t
  have r2 := rng32 p
  have r3 := rng64 (t.toInt64 <<< ((32 : Int32) &&& 0x3f).toInt64)
  have e1 : (t.toInt64 <<< ((32 : Int32) &&& 0x3f).toInt64).toInt = t.toInt * 4294967296 := by
    have : ((2 ^ 32 : Nat) : Int) = 4294967296 := by decide
    rw [this] at h1; omega
  have h4 := c_orL (t.toInt64 <<< ((32 : Int32) &&& 0x3f).toInt64) p.toInt64 32 (by decide) 4294967296 (by decide) (by omega) (by omega) (by omega)
  have r4 := rng64 ((t.toInt64 <<< ((32 : Int32) &&& 0x3f).toInt64) ||| p.toInt64)
  unfold own_kk
  omega
theorem own_nm1 {t p t' p' : Int32} (h : own_kk t' p' < own_kk t p) : ¬ (t = t' ∧ p = p') := fun q => by
  rw [q.1, q.2] at h; exact Int64.lt_irrefl h
theorem own_nm2 {t p t1 p1 t2 p2 : Int32} (h : ¬ own_kk t1 p1 < own_kk t p) (s : own_kk t1 p1 < own_kk t2 p2) : ¬ (t = t2 ∧ p = p2) := fun q => by
  rw [q.1, q.2] at h; exact h s
theorem own_minT {x t : Int32} (h : t = own_min (x &&& (2147483647 : Int32)) (2147483638 : Int32)) : 0 ≤ t.toInt ∧ t.toInt ≤ 2147483638 := by
  have h1 := c_mask x 2147483647 31 (by decide) (by decide)
  have k : (2147483638 : Int32).toInt = 2147483638 := by decide
  subst h; unfold own_min
  split
  · rw [k]; omega
  · rename_i q; rw [Int32.lt_iff_toInt_lt, k] at q; omega
theorem own_minP {x t : Int32} (h : t = own_min (x &&& (2147483647 : Int32)) (2147483632 : Int32)) : 0 ≤ t.toInt ∧ t.toInt ≤ 2147483632 := by
  have h1 := c_mask x 2147483647 31 (by decide) (by decide)
  have k : (2147483632 : Int32).toInt = 2147483632 := by decide
  subst h; unfold own_min
  split
  · rw [k]; omega
  · rename_i q; rw [Int32.lt_iff_toInt_lt, k] at q; omega
theorem own_and3 {d : Int32} {x : Int64} (h : d = ((x &&& (3 : Int64)).toInt32)) : 0 ≤ d.toInt ∧ d.toInt ≤ 3 := by
  have h1 := c_maskL x 3 2 (by decide) (by decide)
  have h2 := c_l2i (x &&& 3)
  have h3 := rng32 ((x &&& 3).toInt32)
  have k : ((2 ^ 2 : Nat) : Int) = 4 := by decide
  rw [k] at h1
  subst h; omega
def own_stp (dt p pB dp q : Int32) : Prop := (dt = 0 ∧ q = ((p + (1 : Int32)) + dp)) ∨ (¬ dt = 0 ∧ q = (pB + dp))
theorem own_stp0 {dt p pB dp : Int32} (h : dt = (0 : Int32)) : own_stp dt p pB dp ((p + (1 : Int32)) + dp) := Or.inl ⟨h, rfl⟩
theorem own_stp1 {dt p pB dp : Int32} (h : ¬ dt = (0 : Int32)) : own_stp dt p pB dp (pB + dp) := Or.inr ⟨h, rfl⟩
theorem own_add {x y : Int32} (h : -2147483648 ≤ x.toInt + y.toInt) (h2 : x.toInt + y.toInt < 2147483648) : (x + y).toInt = x.toInt + y.toInt := by
  have h3 := c_iadd x y
  have h4 := rng32 (x + y)
  omega
theorem own_stp_i {dt p pB dp q : Int32} {m : Int} (h : own_stp dt p pB dp q) (hd : 0 ≤ dt.toInt ∧ dt.toInt ≤ 3) (hdp : 0 ≤ dp.toInt ∧ dp.toInt ≤ 3) (hB : 0 ≤ pB.toInt ∧ pB.toInt ≤ 2147483632) (hp : 0 ≤ p.toInt ∧ p.toInt ≤ pB.toInt + m) (hm : 0 ≤ m ∧ m ≤ 11) :
    (dt.toInt = 0 ∧ p.toInt < q.toInt ∨ 0 < dt.toInt) ∧ 0 ≤ q.toInt ∧ q.toInt ≤ pB.toInt + (m + 4) := by
  have k1 : (1 : Int32).toInt = 1 := by decide
  have k0 : (0 : Int32).toInt = 0 := by decide
  rcases h with ⟨h1, h2⟩ | ⟨h1, h2⟩
  · have e1 : (p + 1).toInt = p.toInt + 1 := by rw [own_add (by omega) (by omega), k1]
    have e2 : ((p + 1) + dp).toInt = p.toInt + 1 + dp.toInt := by rw [own_add (by omega) (by omega), e1]
    rw [h2, e2, h1, k0]
    exact ⟨Or.inl ⟨rfl, by omega⟩, by omega, by omega⟩
  · have e2 : (pB + dp).toInt = pB.toInt + dp.toInt := own_add (by omega) (by omega)
    have h3 : dt.toInt ≠ 0 := fun q => h1 (Int32.toInt_inj.mp (by rw [q, k0]))
    rw [h2, e2]
    exact ⟨Or.inr (by omega), by omega, by omega⟩
theorem own_kk_lt {t p t' p' dt : Int32} (ht : 0 ≤ t.toInt) (hp : 0 ≤ p.toInt) (hp' : 0 ≤ p'.toInt) (e : t'.toInt = t.toInt + dt.toInt) (h : dt.toInt = 0 ∧ p.toInt < p'.toInt ∨ 0 < dt.toInt) : own_kk t p < own_kk t' p' := by
  have r1 := rng32 p
  have r2 := rng32 p'
  rw [Int64.lt_iff_toInt_lt, own_kk_eq ht hp, own_kk_eq (by omega) hp']
  omega
theorem own_facts {tB pB dp0 dt1 dp1 dt2 dp2 dt3 dp3 p0 t1 t2 t3 p1 p2 p3 : Int32} (bt : 0 ≤ tB.toInt ∧ tB.toInt ≤ 2147483638) (bp : 0 ≤ pB.toInt ∧ pB.toInt ≤ 2147483632)
    (b0 : 0 ≤ dp0.toInt ∧ dp0.toInt ≤ 3) (b1 : 0 ≤ dt1.toInt ∧ dt1.toInt ≤ 3) (b2 : 0 ≤ dp1.toInt ∧ dp1.toInt ≤ 3) (b3 : 0 ≤ dt2.toInt ∧ dt2.toInt ≤ 3) (b4 : 0 ≤ dp2.toInt ∧ dp2.toInt ≤ 3) (b5 : 0 ≤ dt3.toInt ∧ dt3.toInt ≤ 3) (b6 : 0 ≤ dp3.toInt ∧ dp3.toInt ≤ 3)
    (h0 : p0 = (pB + dp0)) (g1 : t1 = (tB + dt1)) (g2 : t2 = (t1 + dt2)) (g3 : t3 = (t2 + dt3)) (s1 : own_stp dt1 p0 pB dp1 p1) (s2 : own_stp dt2 p1 pB dp2 p2) (s3 : own_stp dt3 p2 pB dp3 p3) :
    own_kk tB p0 < own_kk t1 p1 ∧ own_kk t1 p1 < own_kk t2 p2 ∧ own_kk t2 p2 < own_kk t3 p3 := by
  have e0 : p0.toInt = pB.toInt + dp0.toInt := by rw [h0]; exact own_add (by omega) (by omega)
  have e1 : t1.toInt = tB.toInt + dt1.toInt := by rw [g1]; exact own_add (by omega) (by omega)
  have e2 : t2.toInt = t1.toInt + dt2.toInt := by rw [g2]; exact own_add (by omega) (by omega)
  have e3 : t3.toInt = t2.toInt + dt3.toInt := by rw [g3]; exact own_add (by omega) (by omega)
  obtain ⟨q1, r1⟩ := own_stp_i (m := 3) s1 b1 b2 bp (by omega) (by omega)
  obtain ⟨q2, r2⟩ := own_stp_i (m := 7) s2 b3 b4 bp (by omega) (by omega)
  obtain ⟨q3, r3⟩ := own_stp_i (m := 11) s3 b5 b6 bp (by omega) (by omega)
  exact ⟨own_kk_lt (by omega) (by omega) (by omega) e1 q1, own_kk_lt (by omega) (by omega) (by omega) e2 q2, own_kk_lt (by omega) (by omega) (by omega) e3 q3⟩
theorem own_five {s n : Int32} (h : n = ((s &&& (7 : Int32)) % (5 : Int32))) : n = (0 : Int32) ∨ n = (1 : Int32) ∨ n = (2 : Int32) ∨ n = (3 : Int32) ∨ n = (4 : Int32) := by
  have h1 := c_mask s 7 3 (by decide) (by decide)
  have k : ((2 ^ 3 : Nat) : Int) = 8 := by decide
  rw [k] at h1
  have h2 := (c_irem (s &&& 7) 5 5 (by decide)).1 (by omega)
  rw [← h] at h2
  have h3 : n.toInt = 0 ∨ n.toInt = 1 ∨ n.toInt = 2 ∨ n.toInt = 3 ∨ n.toInt = 4 := by omega
  rcases h3 with q | q | q | q | q
  · exact Or.inl (Int32.toInt_inj.mp q)
  · exact Or.inr (Or.inl (Int32.toInt_inj.mp q))
  · exact Or.inr (Or.inr (Or.inl (Int32.toInt_inj.mp q)))
  · exact Or.inr (Or.inr (Or.inr (Or.inl (Int32.toInt_inj.mp q))))
  · exact Or.inr (Or.inr (Or.inr (Or.inr (Int32.toInt_inj.mp q))))
theorem pn_0 : plainName "com/example/hourline/hourline/network/CallsFindPinLaw" = true := by first | (simp [plainName, overriddenIn]; done) | decide +kernel
theorem pn_1 : plainName "java/lang/Record" = true := by first | (simp [plainName, overriddenIn]; done) | decide +kernel
theorem pn_2 : plainName "com/example/hourline/hourline/network/Timetable$Calls" = true := by first | (simp [plainName, overriddenIn]; done) | decide +kernel
theorem pd_0 : parseMethodDescriptor "()V" = some ⟨[], none⟩ := by decide +kernel
theorem pd_1 : parseMethodDescriptor "(II)I" = some ⟨[.int, .int], some .int⟩ := by decide +kernel
theorem pd_2 : parseMethodDescriptor "([I[I[I[I[B)V" = some ⟨[(.array .int), (.array .int), (.array .int), (.array .int), (.array .byte)], none⟩ := by decide +kernel
theorem pd_3 : parseMethodDescriptor "(IIIII)I" = some ⟨[.int, .int, .int, .int, .int], some .int⟩ := by decide +kernel
theorem d1_0 : decode jdk_29_method_69_code 0 = .ok (.iload_n 0, 1) := by decide +kernel
theorem d1_1 : decode jdk_29_method_69_code 1 = .ok (.iload_n 1, 1) := by decide +kernel
theorem d1_2 : decode jdk_29_method_69_code 2 = .ok (.if_icmp .gt 7, 3) := by decide +kernel
theorem d1_5 : decode jdk_29_method_69_code 5 = .ok (.iload_n 0, 1) := by decide +kernel
theorem d1_6 : decode jdk_29_method_69_code 6 = .ok (.goto 4, 3) := by decide +kernel
theorem d1_9 : decode jdk_29_method_69_code 9 = .ok (.iload_n 1, 1) := by decide +kernel
theorem d1_10 : decode jdk_29_method_69_code 10 = .ok (.ireturn, 1) := by decide +kernel
theorem d2_0 : decode prog_144_method_1_code 0 = .ok (.aload_n 0, 1) := by decide +kernel
theorem d2_1 : decode prog_144_method_1_code 1 = .ok (.invokespecial 1, 3) := by decide +kernel
theorem d2_4 : decode prog_144_method_1_code 4 = .ok (.aload_n 0, 1) := by decide +kernel
theorem d2_5 : decode prog_144_method_1_code 5 = .ok (.aload_n 1, 1) := by decide +kernel
theorem d2_6 : decode prog_144_method_1_code 6 = .ok (.putfield 7, 3) := by decide +kernel
theorem d2_9 : decode prog_144_method_1_code 9 = .ok (.aload_n 0, 1) := by decide +kernel
theorem d2_10 : decode prog_144_method_1_code 10 = .ok (.aload_n 2, 1) := by decide +kernel
theorem d2_11 : decode prog_144_method_1_code 11 = .ok (.putfield 13, 3) := by decide +kernel
theorem d2_14 : decode prog_144_method_1_code 14 = .ok (.aload_n 0, 1) := by decide +kernel
theorem d2_15 : decode prog_144_method_1_code 15 = .ok (.aload_n 3, 1) := by decide +kernel
theorem d2_16 : decode prog_144_method_1_code 16 = .ok (.putfield 16, 3) := by decide +kernel
theorem d2_19 : decode prog_144_method_1_code 19 = .ok (.aload_n 0, 1) := by decide +kernel
theorem d2_20 : decode prog_144_method_1_code 20 = .ok (.aload 4, 2) := by decide +kernel
theorem d2_22 : decode prog_144_method_1_code 22 = .ok (.putfield 19, 3) := by decide +kernel
theorem d2_25 : decode prog_144_method_1_code 25 = .ok (.aload_n 0, 1) := by decide +kernel
theorem d2_26 : decode prog_144_method_1_code 26 = .ok (.aload 5, 2) := by decide +kernel
theorem d2_28 : decode prog_144_method_1_code 28 = .ok (.putfield 22, 3) := by decide +kernel
theorem d2_31 : decode prog_144_method_1_code 31 = .ok (.return_, 1) := by decide +kernel
theorem d3_0 : decode jdk_30_method_1_code 0 = .ok (.aload_n 0, 1) := by decide +kernel
theorem d3_1 : decode jdk_30_method_1_code 1 = .ok (.invokespecial 1, 3) := by decide +kernel
theorem d3_4 : decode jdk_30_method_1_code 4 = .ok (.return_, 1) := by decide +kernel
theorem d5_0 : decode prog_144_method_7_code 0 = .ok (.iload_n 1, 1) := by decide +kernel
theorem d5_1 : decode prog_144_method_7_code 1 = .ok (.i2l, 1) := by decide +kernel
theorem d5_2 : decode prog_144_method_7_code 2 = .ok (.bipush 32, 2) := by decide +kernel
theorem d5_4 : decode prog_144_method_7_code 4 = .ok (.lshl, 1) := by decide +kernel
theorem d5_5 : decode prog_144_method_7_code 5 = .ok (.iload_n 2, 1) := by decide +kernel
theorem d5_6 : decode prog_144_method_7_code 6 = .ok (.i2l, 1) := by decide +kernel
theorem d5_7 : decode prog_144_method_7_code 7 = .ok (.lor, 1) := by decide +kernel
theorem d5_8 : decode prog_144_method_7_code 8 = .ok (.lstore_n 3, 1) := by decide +kernel
theorem d5_9 : decode prog_144_method_7_code 9 = .ok (.iconst 0, 1) := by decide +kernel
theorem d5_10 : decode prog_144_method_7_code 10 = .ok (.istore 5, 2) := by decide +kernel
theorem d5_12 : decode prog_144_method_7_code 12 = .ok (.aload_n 0, 1) := by decide +kernel
theorem d5_13 : decode prog_144_method_7_code 13 = .ok (.getfield 7, 3) := by decide +kernel
theorem d5_16 : decode prog_144_method_7_code 16 = .ok (.arraylength, 1) := by decide +kernel
theorem d5_17 : decode prog_144_method_7_code 17 = .ok (.istore 6, 2) := by decide +kernel
theorem d5_19 : decode prog_144_method_7_code 19 = .ok (.iload 5, 2) := by decide +kernel
theorem d5_21 : decode prog_144_method_7_code 21 = .ok (.iload 6, 2) := by decide +kernel
theorem d5_23 : decode prog_144_method_7_code 23 = .ok (.if_icmp .ge 53, 3) := by decide +kernel
theorem d5_26 : decode prog_144_method_7_code 26 = .ok (.iload 5, 2) := by decide +kernel
theorem d5_28 : decode prog_144_method_7_code 28 = .ok (.iload 6, 2) := by decide +kernel
theorem d5_30 : decode prog_144_method_7_code 30 = .ok (.iadd, 1) := by decide +kernel
theorem d5_31 : decode prog_144_method_7_code 31 = .ok (.iconst 1, 1) := by decide +kernel
theorem d5_32 : decode prog_144_method_7_code 32 = .ok (.iushr, 1) := by decide +kernel
theorem d5_33 : decode prog_144_method_7_code 33 = .ok (.istore 7, 2) := by decide +kernel
theorem d5_35 : decode prog_144_method_7_code 35 = .ok (.aload_n 0, 1) := by decide +kernel
theorem d5_36 : decode prog_144_method_7_code 36 = .ok (.getfield 7, 3) := by decide +kernel
theorem d5_39 : decode prog_144_method_7_code 39 = .ok (.iload 7, 2) := by decide +kernel
theorem d5_41 : decode prog_144_method_7_code 41 = .ok (.iaload, 1) := by decide +kernel
theorem d5_42 : decode prog_144_method_7_code 42 = .ok (.i2l, 1) := by decide +kernel
theorem d5_43 : decode prog_144_method_7_code 43 = .ok (.bipush 32, 2) := by decide +kernel
theorem d5_45 : decode prog_144_method_7_code 45 = .ok (.lshl, 1) := by decide +kernel
theorem d5_46 : decode prog_144_method_7_code 46 = .ok (.aload_n 0, 1) := by decide +kernel
theorem d5_47 : decode prog_144_method_7_code 47 = .ok (.getfield 13, 3) := by decide +kernel
theorem d5_50 : decode prog_144_method_7_code 50 = .ok (.iload 7, 2) := by decide +kernel
theorem d5_52 : decode prog_144_method_7_code 52 = .ok (.iaload, 1) := by decide +kernel
theorem d5_53 : decode prog_144_method_7_code 53 = .ok (.i2l, 1) := by decide +kernel
theorem d5_54 : decode prog_144_method_7_code 54 = .ok (.lor, 1) := by decide +kernel
theorem d5_55 : decode prog_144_method_7_code 55 = .ok (.lload_n 3, 1) := by decide +kernel
theorem d5_56 : decode prog_144_method_7_code 56 = .ok (.lcmp, 1) := by decide +kernel
theorem d5_57 : decode prog_144_method_7_code 57 = .ok (.ifCond .ge 12, 3) := by decide +kernel
theorem d5_60 : decode prog_144_method_7_code 60 = .ok (.iload 7, 2) := by decide +kernel
theorem d5_62 : decode prog_144_method_7_code 62 = .ok (.iconst 1, 1) := by decide +kernel
theorem d5_63 : decode prog_144_method_7_code 63 = .ok (.iadd, 1) := by decide +kernel
theorem d5_64 : decode prog_144_method_7_code 64 = .ok (.istore 5, 2) := by decide +kernel
theorem d5_66 : decode prog_144_method_7_code 66 = .ok (.goto 7, 3) := by decide +kernel
theorem d5_69 : decode prog_144_method_7_code 69 = .ok (.iload 7, 2) := by decide +kernel
theorem d5_71 : decode prog_144_method_7_code 71 = .ok (.istore 6, 2) := by decide +kernel
theorem d5_73 : decode prog_144_method_7_code 73 = .ok (.goto (-54), 3) := by decide +kernel
theorem d5_76 : decode prog_144_method_7_code 76 = .ok (.iload 5, 2) := by decide +kernel
theorem d5_78 : decode prog_144_method_7_code 78 = .ok (.aload_n 0, 1) := by decide +kernel
theorem d5_79 : decode prog_144_method_7_code 79 = .ok (.getfield 7, 3) := by decide +kernel
theorem d5_82 : decode prog_144_method_7_code 82 = .ok (.arraylength, 1) := by decide +kernel
theorem d5_83 : decode prog_144_method_7_code 83 = .ok (.if_icmp .ge 30, 3) := by decide +kernel
theorem d5_86 : decode prog_144_method_7_code 86 = .ok (.aload_n 0, 1) := by decide +kernel
theorem d5_87 : decode prog_144_method_7_code 87 = .ok (.getfield 7, 3) := by decide +kernel
theorem d5_90 : decode prog_144_method_7_code 90 = .ok (.iload 5, 2) := by decide +kernel
theorem d5_92 : decode prog_144_method_7_code 92 = .ok (.iaload, 1) := by decide +kernel
theorem d5_93 : decode prog_144_method_7_code 93 = .ok (.iload_n 1, 1) := by decide +kernel
theorem d5_94 : decode prog_144_method_7_code 94 = .ok (.if_icmp .ne 19, 3) := by decide +kernel
theorem d5_97 : decode prog_144_method_7_code 97 = .ok (.aload_n 0, 1) := by decide +kernel
theorem d5_98 : decode prog_144_method_7_code 98 = .ok (.getfield 13, 3) := by decide +kernel
theorem d5_101 : decode prog_144_method_7_code 101 = .ok (.iload 5, 2) := by decide +kernel
theorem d5_103 : decode prog_144_method_7_code 103 = .ok (.iaload, 1) := by decide +kernel
theorem d5_104 : decode prog_144_method_7_code 104 = .ok (.iload_n 2, 1) := by decide +kernel
theorem d5_105 : decode prog_144_method_7_code 105 = .ok (.if_icmp .ne 8, 3) := by decide +kernel
theorem d5_108 : decode prog_144_method_7_code 108 = .ok (.iload 5, 2) := by decide +kernel
theorem d5_110 : decode prog_144_method_7_code 110 = .ok (.goto 4, 3) := by decide +kernel
theorem d5_113 : decode prog_144_method_7_code 113 = .ok (.iconst (-1), 1) := by decide +kernel
theorem d5_114 : decode prog_144_method_7_code 114 = .ok (.ireturn, 1) := by decide +kernel
theorem d6_0 : decode method_2_code 0 = .ok (.iload_n 0, 1) := by decide +kernel
theorem d6_1 : decode method_2_code 1 = .ok (.ifCond .ne 5, 3) := by decide +kernel
theorem d6_4 : decode method_2_code 4 = .ok (.iload_n 1, 1) := by decide +kernel
theorem d6_5 : decode method_2_code 5 = .ok (.ireturn, 1) := by decide +kernel
theorem d6_6 : decode method_2_code 6 = .ok (.iload_n 0, 1) := by decide +kernel
theorem d6_7 : decode method_2_code 7 = .ok (.iconst 1, 1) := by decide +kernel
theorem d6_8 : decode method_2_code 8 = .ok (.if_icmp .ne 5, 3) := by decide +kernel
theorem d6_11 : decode method_2_code 11 = .ok (.iload_n 2, 1) := by decide +kernel
theorem d6_12 : decode method_2_code 12 = .ok (.ireturn, 1) := by decide +kernel
theorem d6_13 : decode method_2_code 13 = .ok (.iload_n 0, 1) := by decide +kernel
theorem d6_14 : decode method_2_code 14 = .ok (.iconst 2, 1) := by decide +kernel
theorem d6_15 : decode method_2_code 15 = .ok (.if_icmp .ne 5, 3) := by decide +kernel
theorem d6_18 : decode method_2_code 18 = .ok (.iload_n 3, 1) := by decide +kernel
theorem d6_19 : decode method_2_code 19 = .ok (.ireturn, 1) := by decide +kernel
theorem d6_20 : decode method_2_code 20 = .ok (.iload 4, 2) := by decide +kernel
theorem d6_22 : decode method_2_code 22 = .ok (.ireturn, 1) := by decide +kernel
theorem ef_1 (m : MethodId) (x0 : Int32) (x1 : Int32) : entryFrame m #[(.int x0), (.int x1)] 2 = mkF m 0 #[.val (.int x0), .val (.int x1)] [] := by first | (simp [entryFrame, mkF, argsToLocals, Value.category]; done) | rfl
set_option maxRecDepth 65536 in
set_option maxHeartbeats 40000000 in
theorem rm1 (l : Launch) (Z : State) (a0 : Array Value) (hw : ∀ d ∈ tables_1, d.before a0 Z = true) (xa : Int32) (xb : Int32) (h0 : Heap) :
    Con l (⟨"java/lang/Math", "min", "(II)I"⟩ : MethodName) jdk_29_method_69_code 2 (some .int) [] ({ frames := 0, cells := 0, slots := 0, locals := 0 } : Room) #[(.int xa), (.int xb)] Z h0 (fun v h L => v = some (.int (own_min xa xb)) ∧ h = h0 ∧ L = []) := by
  refine Con.of (Jvm.Free.JP.mathPlain rfl (by decide +kernel)) ?_
  intro p e s m below meth c s₁ hx hZ hby hml hown hnm hret hlk X0 e0
  refine Ends.cast (ef_1 m xa xb) ?_
  show Ends p e below s _ _ _ s₁ (mkF m 0 #[.val (.int xa), .val (.int xb)] [])
  refine E.iloadN (q := 1) X0 hx (hb hby d1_0) rfl ?_
  refine E.iloadN (q := 2) X0 hx (hb hby d1_1) rfl ?_
  by_cases hc2_0 : xb < xa
  · refine E.icmpY (q := 9) X0 hx (hb hby d1_2) (XT.ii_gt_t hc2_0) ?_
    refine E.iloadN (q := 10) X0 hx (hb hby d1_9) rfl ?_
    exact Ends.retI X0 hx hlk hret (hb hby d1_10) (by decide) (by decide) ⟨by simp [own_min, hc2_0], e0, rfl⟩
  · refine E.icmpN (q := 5) X0 hx (hb hby d1_2) (XT.ii_gt_f hc2_0) ?_
    refine E.iloadN (q := 6) X0 hx (hb hby d1_5) rfl ?_
    refine E.goto (q := 10) X0 hx (hb hby d1_6) ?_
    exact Ends.retI X0 hx hlk hret (hb hby d1_10) (by decide) (by decide) ⟨by simp [own_min, hc2_0], e0, rfl⟩
theorem ef_6 (m : MethodId) (x0 : Int32) (x1 : Int32) (x2 : Int32) (x3 : Int32) (x4 : Int32) : entryFrame m #[(.int x0), (.int x1), (.int x2), (.int x3), (.int x4)] 5 = mkF m 0 #[.val (.int x0), .val (.int x1), .val (.int x2), .val (.int x3), .val (.int x4)] [] := by first | (simp [entryFrame, mkF, argsToLocals, Value.category]; done) | rfl
set_option maxRecDepth 65536 in
set_option maxHeartbeats 40000000 in
theorem rm6 (l : Launch) (Z : State) (a0 : Array Value) (hw : ∀ d ∈ tables_1, d.before a0 Z = true) (xk : Int32) (xa : Int32) (xb : Int32) (xc : Int32) (xd : Int32) (h0 : Heap) :
    Con l (⟨"com/example/hourline/hourline/network/CallsFindPinLaw", "pick", "(IIIII)I"⟩ : MethodName) method_2_code 5 (some .int) [] ({ frames := 0, cells := 0, slots := 0, locals := 0 } : Room) #[(.int xk), (.int xa), (.int xb), (.int xc), (.int xd)] Z h0 (fun v h L => ∃ z, v = some (.int z) ∧ h = h0 ∧ L = []) := by
  refine Con.of (plainFor_of_name pn_0) ?_
  intro p e s m below meth c s₁ hx hZ hby hml hown hnm hret hlk X0 e0
  refine Ends.cast (ef_6 m xk xa xb xc xd) ?_
  show Ends p e below s _ _ _ s₁ (mkF m 0 #[.val (.int xk), .val (.int xa), .val (.int xb), .val (.int xc), .val (.int xd)] [])
  refine E.iloadN (q := 1) X0 hx (hb hby d6_0) rfl ?_
  by_cases hc1_0 : xk = (0 : Int32)
  · refine E.ifN (q := 4) X0 hx (hb hby d6_1) (XT.i0_ne_f hc1_0) ?_
    refine E.iloadN (q := 5) X0 hx (hb hby d6_4) rfl ?_
    exact Ends.retI X0 hx hlk hret (hb hby d6_5) (by decide) (by decide) ⟨_, rfl, e0, rfl⟩
  · refine E.ifY (q := 6) X0 hx (hb hby d6_1) (XT.i0_ne_t hc1_0) ?_
    refine E.iloadN (q := 7) X0 hx (hb hby d6_6) rfl ?_
    refine E.iconst (q := 8) (v := (1 : Int32)) X0 hx (hb hby d6_7) rfl ?_
    by_cases hc8_1 : xk = (1 : Int32)
    · refine E.icmpN (q := 11) X0 hx (hb hby d6_8) (XT.ii_ne_f hc8_1) ?_
      refine E.iloadN (q := 12) X0 hx (hb hby d6_11) rfl ?_
      exact Ends.retI X0 hx hlk hret (hb hby d6_12) (by decide) (by decide) ⟨_, rfl, e0, rfl⟩
    · refine E.icmpY (q := 13) X0 hx (hb hby d6_8) (XT.ii_ne_t hc8_1) ?_
      refine E.iloadN (q := 14) X0 hx (hb hby d6_13) rfl ?_
      refine E.iconst (q := 15) (v := (2 : Int32)) X0 hx (hb hby d6_14) rfl ?_
      by_cases hc15_2 : xk = (2 : Int32)
      · refine E.icmpN (q := 18) X0 hx (hb hby d6_15) (XT.ii_ne_f hc15_2) ?_
        refine E.iloadN (q := 19) X0 hx (hb hby d6_18) rfl ?_
        exact Ends.retI X0 hx hlk hret (hb hby d6_19) (by decide) (by decide) ⟨_, rfl, e0, rfl⟩
      · refine E.icmpY (q := 20) X0 hx (hb hby d6_15) (XT.ii_ne_t hc15_2) ?_
        refine E.iload (q := 22) X0 hx (hb hby d6_20) rfl ?_
        exact Ends.retI X0 hx hlk hret (hb hby d6_22) (by decide) (by decide) ⟨_, rfl, e0, rfl⟩
theorem ef_3 (m : MethodId) (x0 : Addr) : entryFrame m #[(.ref x0)] 1 = mkF m 0 #[.val (.ref x0)] [] := by first | (simp [entryFrame, mkF, argsToLocals, Value.category]; done) | rfl
set_option maxRecDepth 65536 in
set_option maxHeartbeats 40000000 in
theorem rm3 (l : Launch) (Z : State) (a0 : Array Value) (hw : ∀ d ∈ tables_1, d.before a0 Z = true) (oa : Addr) (h0 : Heap) :
    Con l (⟨"java/lang/Record", "<init>", "()V"⟩ : MethodName) jdk_30_method_1_code 1 none [] ({ frames := 1, cells := 0, slots := 0, locals := 12 } : Room) #[(.ref oa)] Z h0 (fun v h L => v = none ∧ h = h0 ∧ L = []) := by
  refine Con.of (plainFor_of_name pn_1) ?_
  intro p e s m below meth c s₁ hx hZ hby hml hown hnm hret hlk X0 e0
  refine Ends.cast (ef_3 m oa) ?_
  show Ends p e below s _ _ _ s₁ (mkF m 0 #[.val (.ref oa)] [])
  refine E.aloadN (q := 1) X0 hx (hb hby d3_0) rfl rfl ?_
  refine Ends.initO X0 hx hZ hown (hw _ (List.mem_of_getElem? (i := 21) rfl)) (hw _ (List.mem_of_getElem? (i := 22) rfl)) (hw _ (List.mem_of_getElem? (i := 23) rfl)) e0 (by rw [hml]; rfl) (hb hby d3_1) (by decide) (W := 0) (Nat.le_of_eq rfl) (by decide) ?_
  intro T1 X1 e1
  exact Ends.retV X1 hx hlk hret (hb hby d3_4) (by decide) (by decide) ⟨rfl, e1, rfl⟩
theorem ef_2 (m : MethodId) (x0 : Addr) (x1 : Addr) (x2 : Addr) (x3 : Addr) (x4 : Addr) (x5 : Addr) : entryFrame m #[(.ref x0), (.ref x1), (.ref x2), (.ref x3), (.ref x4), (.ref x5)] 6 = mkF m 0 #[.val (.ref x0), .val (.ref x1), .val (.ref x2), .val (.ref x3), .val (.ref x4), .val (.ref x5)] [] := by first | (simp [entryFrame, mkF, argsToLocals, Value.category]; done) | rfl
set_option maxRecDepth 65536 in
set_option maxHeartbeats 40000000 in
theorem rm2 (l : Launch) (Z : State) (a0 : Array Value) (hw : ∀ d ∈ tables_1, d.before a0 Z = true) (oa : Addr) (ot : Addr) (op : Addr) (or_ : Addr) (od : Addr) (ok : Addr) (h0 : Heap) (E0 : Exa Z h0 oa "com/example/hourline/hourline/network/Timetable$Calls") (F_trips : Fld Z h0 oa "com/example/hourline/hourline/network/Timetable$Calls" "trips" "[I" .null) (F_positions : Fld Z h0 oa "com/example/hourline/hourline/network/Timetable$Calls" "positions" "[I" .null) (F_arrivals : Fld Z h0 oa "com/example/hourline/hourline/network/Timetable$Calls" "arrivals" "[I" .null) (F_departures : Fld Z h0 oa "com/example/hourline/hourline/network/Timetable$Calls" "departures" "[I" .null) (F_kinds : Fld Z h0 oa "com/example/hourline/hourline/network/Timetable$Calls" "kinds" "[B" .null) :
    Con l (⟨"com/example/hourline/hourline/network/Timetable$Calls", "<init>", "([I[I[I[I[B)V"⟩ : MethodName) prog_144_method_1_code 6 none [] ({ frames := 2, cells := 0, slots := 0, locals := 24 } : Room) #[(.ref oa), (.ref ot), (.ref op), (.ref or_), (.ref od), (.ref ok)] Z h0 (fun v h L => v = none ∧ Ok h0 h [oa] L ∧ Fld Z h oa "com/example/hourline/hourline/network/Timetable$Calls" "trips" "[I" (.ref ot) ∧ Fld Z h oa "com/example/hourline/hourline/network/Timetable$Calls" "positions" "[I" (.ref op)) := by
  refine Con.of (plainFor_of_name pn_2) ?_
  intro p e s m below meth c s₁ hx hZ hby hml hown hnm hret hlk X0 e0
  refine Ends.cast (ef_2 m oa ot op or_ od ok) ?_
  show Ends p e below s _ _ _ s₁ (mkF m 0 #[.val (.ref oa), .val (.ref ot), .val (.ref op), .val (.ref or_), .val (.ref od), .val (.ref ok)] [])
  have O0 := Ok.refl h0 [oa]
  refine E.aloadN (q := 1) X0 hx (hb hby d2_0) rfl rfl ?_
  refine Ends.callI X0 hx hZ hown (hw _ (List.mem_of_getElem? (i := 16) rfl)) (hw _ (List.mem_of_getElem? (i := 17) rfl)) (hw _ (List.mem_of_getElem? (i := 19) rfl)) (hw _ (List.mem_of_getElem? (i := 20) rfl)) rfl (by decide) (argsL := []) (rest := []) e0 (rm3 l Z a0 hw oa h0) (W := 0) (by decide) (by decide) (by rw [hml]; rfl) (lenOf pd_0 rfl) (Nat.le_of_eq rfl) (hb hby d2_1) (by decide) (by decide) rfl ?_
  rintro T2 v2 L2 X2 ⟨rfl, e2, rfl⟩
  rw [List.append_nil] at X2
  show Ends p e below s _ _ _ T2 (mkF m 4 #[.val (.ref oa), .val (.ref ot), .val (.ref op), .val (.ref or_), .val (.ref od), .val (.ref ok)] [])
  refine E.aloadN (q := 5) X2 hx (hb hby d2_4) rfl rfl ?_
  refine E.aloadN (q := 6) X2 hx (hb hby d2_5) rfl rfl ?_
  refine Ends.putF X2 hx hZ hown (host := "") (Or.inl (hw _ (List.mem_of_getElem? (i := 24) rfl))) Via.refl e2 F_trips E0 (Or.inr ⟨(hw _ (List.mem_of_getElem? (i := 25) rfl)), rfl, hnm⟩) (hw _ (List.mem_of_getElem? (i := 10) rfl)) (ty := (.array .int)) (by decide) rfl rfl (hb hby d2_6) ?_
  intro T3 h3 X3 e3 W3 Fw3
  have O3 := O0.wr W3 (Or.inl (List.mem_of_getElem? (i := 0) rfl))
  refine E.aloadN (q := 10) X3 hx (hb hby d2_9) rfl rfl ?_
  refine E.aloadN (q := 11) X3 hx (hb hby d2_10) rfl rfl ?_
  have f4 := F_positions.other W3 (Or.inr (slot_ne (Or.inr (hw _ (List.mem_of_getElem? (i := 27) rfl))) (Or.inr (hw _ (List.mem_of_getElem? (i := 25) rfl))) (by decide) (t := (.array .int)) (t' := (.array .int)) (by decide) (by decide)))
  have f5 := E0.wr W3
  refine Ends.putF X3 hx hZ hown (host := "") (Or.inl (hw _ (List.mem_of_getElem? (i := 26) rfl))) Via.refl e3 f4 f5 (Or.inr ⟨(hw _ (List.mem_of_getElem? (i := 27) rfl)), rfl, hnm⟩) (hw _ (List.mem_of_getElem? (i := 10) rfl)) (ty := (.array .int)) (by decide) rfl rfl (hb hby d2_11) ?_
  intro T6 h6 X6 e6 W6 Fw6
  have O6 := O3.wr W6 (Or.inl (List.mem_of_getElem? (i := 0) rfl))
  refine E.aloadN (q := 15) X6 hx (hb hby d2_14) rfl rfl ?_
  refine E.aloadN (q := 16) X6 hx (hb hby d2_15) rfl rfl ?_
  have f7 := F_arrivals.other W3 (Or.inr (slot_ne (Or.inr (hw _ (List.mem_of_getElem? (i := 29) rfl))) (Or.inr (hw _ (List.mem_of_getElem? (i := 25) rfl))) (by decide) (t := (.array .int)) (t' := (.array .int)) (by decide) (by decide)))
  have f8 := f7.other W6 (Or.inr (slot_ne (Or.inr (hw _ (List.mem_of_getElem? (i := 29) rfl))) (Or.inr (hw _ (List.mem_of_getElem? (i := 27) rfl))) (by decide) (t := (.array .int)) (t' := (.array .int)) (by decide) (by decide)))
  have f9 := f5.wr W6
  refine Ends.putF X6 hx hZ hown (host := "") (Or.inl (hw _ (List.mem_of_getElem? (i := 28) rfl))) Via.refl e6 f8 f9 (Or.inr ⟨(hw _ (List.mem_of_getElem? (i := 29) rfl)), rfl, hnm⟩) (hw _ (List.mem_of_getElem? (i := 10) rfl)) (ty := (.array .int)) (by decide) rfl rfl (hb hby d2_16) ?_
  intro T10 h10 X10 e10 W10 Fw10
  have O10 := O6.wr W10 (Or.inl (List.mem_of_getElem? (i := 0) rfl))
  refine E.aloadN (q := 20) X10 hx (hb hby d2_19) rfl rfl ?_
  refine E.aload (q := 22) X10 hx (hb hby d2_20) rfl rfl ?_
  have f11 := F_departures.other W3 (Or.inr (slot_ne (Or.inr (hw _ (List.mem_of_getElem? (i := 31) rfl))) (Or.inr (hw _ (List.mem_of_getElem? (i := 25) rfl))) (by decide) (t := (.array .int)) (t' := (.array .int)) (by decide) (by decide)))
  have f12 := f11.other W6 (Or.inr (slot_ne (Or.inr (hw _ (List.mem_of_getElem? (i := 31) rfl))) (Or.inr (hw _ (List.mem_of_getElem? (i := 27) rfl))) (by decide) (t := (.array .int)) (t' := (.array .int)) (by decide) (by decide)))
  have f13 := f12.other W10 (Or.inr (slot_ne (Or.inr (hw _ (List.mem_of_getElem? (i := 31) rfl))) (Or.inr (hw _ (List.mem_of_getElem? (i := 29) rfl))) (by decide) (t := (.array .int)) (t' := (.array .int)) (by decide) (by decide)))
  have f14 := f9.wr W10
  refine Ends.putF X10 hx hZ hown (host := "") (Or.inl (hw _ (List.mem_of_getElem? (i := 30) rfl))) Via.refl e10 f13 f14 (Or.inr ⟨(hw _ (List.mem_of_getElem? (i := 31) rfl)), rfl, hnm⟩) (hw _ (List.mem_of_getElem? (i := 10) rfl)) (ty := (.array .int)) (by decide) rfl rfl (hb hby d2_22) ?_
  intro T15 h15 X15 e15 W15 Fw15
  have O15 := O10.wr W15 (Or.inl (List.mem_of_getElem? (i := 0) rfl))
  refine E.aloadN (q := 26) X15 hx (hb hby d2_25) rfl rfl ?_
  refine E.aload (q := 28) X15 hx (hb hby d2_26) rfl rfl ?_
  have f16 := F_kinds.other W3 (Or.inr (slot_ne (Or.inr (hw _ (List.mem_of_getElem? (i := 33) rfl))) (Or.inr (hw _ (List.mem_of_getElem? (i := 25) rfl))) (by decide) (t := (.array .byte)) (t' := (.array .int)) (by decide) (by decide)))
  have f17 := f16.other W6 (Or.inr (slot_ne (Or.inr (hw _ (List.mem_of_getElem? (i := 33) rfl))) (Or.inr (hw _ (List.mem_of_getElem? (i := 27) rfl))) (by decide) (t := (.array .byte)) (t' := (.array .int)) (by decide) (by decide)))
  have f18 := f17.other W10 (Or.inr (slot_ne (Or.inr (hw _ (List.mem_of_getElem? (i := 33) rfl))) (Or.inr (hw _ (List.mem_of_getElem? (i := 29) rfl))) (by decide) (t := (.array .byte)) (t' := (.array .int)) (by decide) (by decide)))
  have f19 := f18.other W15 (Or.inr (slot_ne (Or.inr (hw _ (List.mem_of_getElem? (i := 33) rfl))) (Or.inr (hw _ (List.mem_of_getElem? (i := 31) rfl))) (by decide) (t := (.array .byte)) (t' := (.array .int)) (by decide) (by decide)))
  have f20 := f14.wr W15
  refine Ends.putF X15 hx hZ hown (host := "") (Or.inl (hw _ (List.mem_of_getElem? (i := 32) rfl))) Via.refl e15 f19 f20 (Or.inr ⟨(hw _ (List.mem_of_getElem? (i := 33) rfl)), rfl, hnm⟩) (hw _ (List.mem_of_getElem? (i := 10) rfl)) (ty := (.array .byte)) (by decide) rfl rfl (hb hby d2_28) ?_
  intro T21 h21 X21 e21 W21 Fw21
  have O21 := O15.wr W21 (Or.inl (List.mem_of_getElem? (i := 0) rfl))
  have f22 := Fw3.other W6 (Or.inr (slot_ne (Or.inr (hw _ (List.mem_of_getElem? (i := 25) rfl))) (Or.inr (hw _ (List.mem_of_getElem? (i := 27) rfl))) (by decide) (t := (.array .int)) (t' := (.array .int)) (by decide) (by decide)))
  have f23 := f22.other W10 (Or.inr (slot_ne (Or.inr (hw _ (List.mem_of_getElem? (i := 25) rfl))) (Or.inr (hw _ (List.mem_of_getElem? (i := 29) rfl))) (by decide) (t := (.array .int)) (t' := (.array .int)) (by decide) (by decide)))
  have f24 := f23.other W15 (Or.inr (slot_ne (Or.inr (hw _ (List.mem_of_getElem? (i := 25) rfl))) (Or.inr (hw _ (List.mem_of_getElem? (i := 31) rfl))) (by decide) (t := (.array .int)) (t' := (.array .int)) (by decide) (by decide)))
  have f25 := f24.other W21 (Or.inr (slot_ne (Or.inr (hw _ (List.mem_of_getElem? (i := 25) rfl))) (Or.inr (hw _ (List.mem_of_getElem? (i := 33) rfl))) (by decide) (t := (.array .int)) (t' := (.array .byte)) (by decide) (by decide)))
  have f26 := Fw6.other W10 (Or.inr (slot_ne (Or.inr (hw _ (List.mem_of_getElem? (i := 27) rfl))) (Or.inr (hw _ (List.mem_of_getElem? (i := 29) rfl))) (by decide) (t := (.array .int)) (t' := (.array .int)) (by decide) (by decide)))
  have f27 := f26.other W15 (Or.inr (slot_ne (Or.inr (hw _ (List.mem_of_getElem? (i := 27) rfl))) (Or.inr (hw _ (List.mem_of_getElem? (i := 31) rfl))) (by decide) (t := (.array .int)) (t' := (.array .int)) (by decide) (by decide)))
  have f28 := f27.other W21 (Or.inr (slot_ne (Or.inr (hw _ (List.mem_of_getElem? (i := 27) rfl))) (Or.inr (hw _ (List.mem_of_getElem? (i := 33) rfl))) (by decide) (t := (.array .int)) (t' := (.array .byte)) (by decide) (by decide)))
  subst e21
  exact Ends.retV X21 hx hlk hret (hb hby d2_31) (by decide) (by decide) ⟨rfl, O21, f25, f28⟩
theorem efF0 (m : MethodId) (x0 : Addr) (x1 : Int32) (x2 : Int32) : entryFrame m #[(.ref x0), (.int x1), (.int x2)] 8 = mkF m 0 #[.val (.ref x0), .val (.int x1), .val (.int x2), .unset, .unset, .unset, .unset, .unset] [] := by first | (simp [entryFrame, mkF, argsToLocals, Value.category]; done) | rfl
set_option maxRecDepth 65536 in
set_option maxHeartbeats 40000000 in
theorem rmF0 (l : Launch) (Z : State) (a0 : Array Value) (hw : ∀ d ∈ tables_1, d.before a0 Z = true) (oa : Addr) (qt : Int32) (qp : Int32) (oT oP : Addr) (h0 : Heap) (F_t : Fld Z h0 oa "com/example/hourline/hourline/network/Timetable$Calls" "trips" "[I" (.ref oT)) (F_p : Fld Z h0 oa "com/example/hourline/hourline/network/Timetable$Calls" "positions" "[I" (.ref oP)) (A_t : Ary Z h0 oT .int []) (A_p : Ary Z h0 oP .int [])  :
    Con l (⟨"com/example/hourline/hourline/network/Timetable$Calls", "find", "(II)I"⟩ : MethodName) prog_144_method_7_code 8 (some .int) [] ({ frames := 0, cells := 0, slots := 0, locals := 0 } : Room) #[(.ref oa), (.int qt), (.int qp)] Z h0 (fun v h L => v = some (.int (-1 : Int32)) ∧ h = h0 ∧ L = []) := by
  refine Con.of (plainFor_of_name pn_2) ?_
  intro p e s m below meth c s₁ hx hZ hby hml hown hnm hret hlk X0 e0
  refine Ends.cast (efF0 m oa qt qp) ?_
  show Ends p e below s _ _ _ s₁ (mkF m 0 #[.val (.ref oa), .val (.int qt), .val (.int qp), .unset, .unset, .unset, .unset, .unset] [])
  have O0 := Ok.refl h0 []
  refine E.iloadN (q := 1) X0 hx (hb hby d5_0) rfl ?_
  refine E.i2l (q := 2) X0 hx (hb hby d5_1) ?_
  refine E.bipush (q := 4) (v := (32 : Int32)) X0 hx (hb hby d5_2) rfl ?_
  refine E.lshl (q := 5) X0 hx (hb hby d5_4) ?_
  refine E.iloadN (q := 6) X0 hx (hb hby d5_5) rfl ?_
  refine E.i2l (q := 7) X0 hx (hb hby d5_6) ?_
  refine E.lor (q := 8) X0 hx (hb hby d5_7) ?_
  refine E.lstoreN (q := 9) (l' := #[.val (.ref oa), .val (.int qt), .val (.int qp), .val (.long (((qt.toInt64) <<< ((32 : Int32) &&& 0x3f).toInt64) ||| (qp.toInt64))), .second, .unset, .unset, .unset]) X0 hx (hb hby d5_8) rfl ?_
  refine E.iconst (q := 10) (v := (0 : Int32)) X0 hx (hb hby d5_9) rfl ?_
  refine E.istore (q := 12) (l' := #[.val (.ref oa), .val (.int qt), .val (.int qp), .val (.long (((qt.toInt64) <<< ((32 : Int32) &&& 0x3f).toInt64) ||| (qp.toInt64))), .second, .val (.int (0 : Int32)), .unset, .unset]) X0 hx (hb hby d5_10) rfl ?_
  refine E.aloadN (q := 13) X0 hx (hb hby d5_12) rfl rfl ?_
  refine Ends.getF X0 hx hZ hown (host := "") (Or.inl (hw _ (List.mem_of_getElem? (i := 24) rfl))) Via.refl e0 F_t (hb hby d5_13) ?_
  intro T29 X29 e29
  refine Ends.alen X29 hx hZ e29 A_t (hb hby d5_16) (n := (0 : Int32)) rfl ?_
  refine E.istore (q := 19) (l' := #[.val (.ref oa), .val (.int qt), .val (.int qp), .val (.long (((qt.toInt64) <<< ((32 : Int32) &&& 0x3f).toInt64) ||| (qp.toInt64))), .second, .val (.int (0 : Int32)), .val (.int (0 : Int32)), .unset]) X29 hx (hb hby d5_17) rfl ?_
  refine E.iload (q := 21) X29 hx (hb hby d5_19) rfl ?_
  refine E.iload (q := 23) X29 hx (hb hby d5_21) rfl ?_
  refine E.icmpY (q := 76) X29 hx (hb hby d5_23) (XT.ii_ge_t (by decide)) ?_
  refine E.iload (q := 78) X29 hx (hb hby d5_76) rfl ?_
  refine E.aloadN (q := 79) X29 hx (hb hby d5_78) rfl rfl ?_
  refine Ends.getF X29 hx hZ hown (host := "") (Or.inl (hw _ (List.mem_of_getElem? (i := 24) rfl))) Via.refl e29 F_t (hb hby d5_79) ?_
  intro T30 X30 e30
  refine Ends.alen X30 hx hZ e30 A_t (hb hby d5_82) (n := (0 : Int32)) rfl ?_
  refine E.icmpY (q := 113) X30 hx (hb hby d5_83) (XT.ii_ge_t (by decide)) ?_
  refine E.iconst (q := 114) (v := (-1 : Int32)) X30 hx (hb hby d5_113) rfl ?_
  exact Ends.retI X30 hx hlk hret (hb hby d5_114) (by decide) (by decide) ⟨by rfl, e30, rfl⟩
theorem efF1 (m : MethodId) (x0 : Addr) (x1 : Int32) (x2 : Int32) : entryFrame m #[(.ref x0), (.int x1), (.int x2)] 8 = mkF m 0 #[.val (.ref x0), .val (.int x1), .val (.int x2), .unset, .unset, .unset, .unset, .unset] [] := by first | (simp [entryFrame, mkF, argsToLocals, Value.category]; done) | rfl
set_option maxRecDepth 65536 in
set_option maxHeartbeats 40000000 in
theorem rmF1 (l : Launch) (Z : State) (a0 : Array Value) (hw : ∀ d ∈ tables_1, d.before a0 Z = true) (oa : Addr) (qt : Int32) (qp : Int32) (oT oP : Addr) (t0 p0 : Int32) (h0 : Heap) (F_t : Fld Z h0 oa "com/example/hourline/hourline/network/Timetable$Calls" "trips" "[I" (.ref oT)) (F_p : Fld Z h0 oa "com/example/hourline/hourline/network/Timetable$Calls" "positions" "[I" (.ref oP)) (A_t : Ary Z h0 oT .int [(.int t0)]) (A_p : Ary Z h0 oP .int [(.int p0)])  :
    Con l (⟨"com/example/hourline/hourline/network/Timetable$Calls", "find", "(II)I"⟩ : MethodName) prog_144_method_7_code 8 (some .int) [] ({ frames := 0, cells := 0, slots := 0, locals := 0 } : Room) #[(.ref oa), (.int qt), (.int qp)] Z h0 (fun v h L => v = some (.int (if qt = t0 ∧ qp = p0 then (0 : Int32) else (-1 : Int32))) ∧ h = h0 ∧ L = []) := by
  refine Con.of (plainFor_of_name pn_2) ?_
  intro p e s m below meth c s₁ hx hZ hby hml hown hnm hret hlk X0 e0
  refine Ends.cast (efF1 m oa qt qp) ?_
  show Ends p e below s _ _ _ s₁ (mkF m 0 #[.val (.ref oa), .val (.int qt), .val (.int qp), .unset, .unset, .unset, .unset, .unset] [])
  have O0 := Ok.refl h0 []
  refine E.iloadN (q := 1) X0 hx (hb hby d5_0) rfl ?_
  refine E.i2l (q := 2) X0 hx (hb hby d5_1) ?_
  refine E.bipush (q := 4) (v := (32 : Int32)) X0 hx (hb hby d5_2) rfl ?_
  refine E.lshl (q := 5) X0 hx (hb hby d5_4) ?_
  refine E.iloadN (q := 6) X0 hx (hb hby d5_5) rfl ?_
  refine E.i2l (q := 7) X0 hx (hb hby d5_6) ?_
  refine E.lor (q := 8) X0 hx (hb hby d5_7) ?_
  refine E.lstoreN (q := 9) (l' := #[.val (.ref oa), .val (.int qt), .val (.int qp), .val (.long (((qt.toInt64) <<< ((32 : Int32) &&& 0x3f).toInt64) ||| (qp.toInt64))), .second, .unset, .unset, .unset]) X0 hx (hb hby d5_8) rfl ?_
  refine E.iconst (q := 10) (v := (0 : Int32)) X0 hx (hb hby d5_9) rfl ?_
  refine E.istore (q := 12) (l' := #[.val (.ref oa), .val (.int qt), .val (.int qp), .val (.long (((qt.toInt64) <<< ((32 : Int32) &&& 0x3f).toInt64) ||| (qp.toInt64))), .second, .val (.int (0 : Int32)), .unset, .unset]) X0 hx (hb hby d5_10) rfl ?_
  refine E.aloadN (q := 13) X0 hx (hb hby d5_12) rfl rfl ?_
  refine Ends.getF X0 hx hZ hown (host := "") (Or.inl (hw _ (List.mem_of_getElem? (i := 24) rfl))) Via.refl e0 F_t (hb hby d5_13) ?_
  intro T31 X31 e31
  refine Ends.alen X31 hx hZ e31 A_t (hb hby d5_16) (n := (1 : Int32)) rfl ?_
  refine E.istore (q := 19) (l' := #[.val (.ref oa), .val (.int qt), .val (.int qp), .val (.long (((qt.toInt64) <<< ((32 : Int32) &&& 0x3f).toInt64) ||| (qp.toInt64))), .second, .val (.int (0 : Int32)), .val (.int (1 : Int32)), .unset]) X31 hx (hb hby d5_17) rfl ?_
  refine E.iload (q := 21) X31 hx (hb hby d5_19) rfl ?_
  refine E.iload (q := 23) X31 hx (hb hby d5_21) rfl ?_
  refine E.icmpN (q := 26) X31 hx (hb hby d5_23) (XT.ii_ge_f (by decide)) ?_
  refine E.iload (q := 28) X31 hx (hb hby d5_26) rfl ?_
  refine E.iload (q := 30) X31 hx (hb hby d5_28) rfl ?_
  refine E.iadd (q := 31) X31 hx (hb hby d5_30) ?_
  rw [show ((0 : Int32) + (1 : Int32)) = (1 : Int32) from by decide]
  refine E.iconst (q := 32) (v := (1 : Int32)) X31 hx (hb hby d5_31) rfl ?_
  refine E.iushr (q := 33) X31 hx (hb hby d5_32) ?_
  rw [show (((1 : Int32).toUInt32 >>> ((1 : Int32) &&& 31).toUInt32).toInt32) = (0 : Int32) from by decide]
  refine E.istore (q := 35) (l' := #[.val (.ref oa), .val (.int qt), .val (.int qp), .val (.long (((qt.toInt64) <<< ((32 : Int32) &&& 0x3f).toInt64) ||| (qp.toInt64))), .second, .val (.int (0 : Int32)), .val (.int (1 : Int32)), .val (.int (0 : Int32))]) X31 hx (hb hby d5_33) rfl ?_
  refine E.aloadN (q := 36) X31 hx (hb hby d5_35) rfl rfl ?_
  refine Ends.getF X31 hx hZ hown (host := "") (Or.inl (hw _ (List.mem_of_getElem? (i := 24) rfl))) Via.refl e31 F_t (hb hby d5_36) ?_
  intro T32 X32 e32
  refine E.iload (q := 41) X32 hx (hb hby d5_39) rfl ?_
  refine Ends.ild X32 hx hZ e32 A_t (i := 0) rfl rfl (hb hby d5_41) ?_
  refine E.i2l (q := 43) X32 hx (hb hby d5_42) ?_
  refine E.bipush (q := 45) (v := (32 : Int32)) X32 hx (hb hby d5_43) rfl ?_
  refine E.lshl (q := 46) X32 hx (hb hby d5_45) ?_
  refine E.aloadN (q := 47) X32 hx (hb hby d5_46) rfl rfl ?_
  refine Ends.getF X32 hx hZ hown (host := "") (Or.inl (hw _ (List.mem_of_getElem? (i := 26) rfl))) Via.refl e32 F_p (hb hby d5_47) ?_
  intro T33 X33 e33
  refine E.iload (q := 52) X33 hx (hb hby d5_50) rfl ?_
  refine Ends.ild X33 hx hZ e33 A_p (i := 0) rfl rfl (hb hby d5_52) ?_
  refine E.i2l (q := 54) X33 hx (hb hby d5_53) ?_
  refine E.lor (q := 55) X33 hx (hb hby d5_54) ?_
  refine E.lloadN (q := 56) X33 hx (hb hby d5_55) rfl ?_
  refine E.lcmp (q := 57) X33 hx (hb hby d5_56) ?_
  by_cases hk0 : own_kk t0 p0 < own_kk qt qp
  · refine E.ifN (q := 60) X33 hx (hb hby d5_57) (XT.i0_ge_f ((lw_lt _ _).mpr hk0)) ?_
    refine E.iload (q := 62) X33 hx (hb hby d5_60) rfl ?_
    refine E.iconst (q := 63) (v := (1 : Int32)) X33 hx (hb hby d5_62) rfl ?_
    refine E.iadd (q := 64) X33 hx (hb hby d5_63) ?_
    rw [show ((0 : Int32) + (1 : Int32)) = (1 : Int32) from by decide]
    refine E.istore (q := 66) (l' := #[.val (.ref oa), .val (.int qt), .val (.int qp), .val (.long (((qt.toInt64) <<< ((32 : Int32) &&& 0x3f).toInt64) ||| (qp.toInt64))), .second, .val (.int (1 : Int32)), .val (.int (1 : Int32)), .val (.int (0 : Int32))]) X33 hx (hb hby d5_64) rfl ?_
    refine E.goto (q := 73) X33 hx (hb hby d5_66) ?_
    refine E.goto (q := 19) X33 hx (hb hby d5_73) ?_
    refine E.iload (q := 21) X33 hx (hb hby d5_19) rfl ?_
    refine E.iload (q := 23) X33 hx (hb hby d5_21) rfl ?_
    refine E.icmpY (q := 76) X33 hx (hb hby d5_23) (XT.ii_ge_t (by decide)) ?_
    refine E.iload (q := 78) X33 hx (hb hby d5_76) rfl ?_
    refine E.aloadN (q := 79) X33 hx (hb hby d5_78) rfl rfl ?_
    refine Ends.getF X33 hx hZ hown (host := "") (Or.inl (hw _ (List.mem_of_getElem? (i := 24) rfl))) Via.refl e33 F_t (hb hby d5_79) ?_
    intro T34 X34 e34
    refine Ends.alen X34 hx hZ e34 A_t (hb hby d5_82) (n := (1 : Int32)) rfl ?_
    refine E.icmpY (q := 113) X34 hx (hb hby d5_83) (XT.ii_ge_t (by decide)) ?_
    refine E.iconst (q := 114) (v := (-1 : Int32)) X34 hx (hb hby d5_113) rfl ?_
    exact Ends.retI X34 hx hlk hret (hb hby d5_114) (by decide) (by decide) ⟨by rw [if_neg (own_nm1 hk0)], e34, rfl⟩
  · refine E.ifY (q := 69) X33 hx (hb hby d5_57) (XT.i0_ge_t (fun q => hk0 ((lw_lt _ _).mp q))) ?_
    refine E.iload (q := 71) X33 hx (hb hby d5_69) rfl ?_
    refine E.istore (q := 73) (l' := #[.val (.ref oa), .val (.int qt), .val (.int qp), .val (.long (((qt.toInt64) <<< ((32 : Int32) &&& 0x3f).toInt64) ||| (qp.toInt64))), .second, .val (.int (0 : Int32)), .val (.int (0 : Int32)), .val (.int (0 : Int32))]) X33 hx (hb hby d5_71) rfl ?_
    refine E.goto (q := 19) X33 hx (hb hby d5_73) ?_
    refine E.iload (q := 21) X33 hx (hb hby d5_19) rfl ?_
    refine E.iload (q := 23) X33 hx (hb hby d5_21) rfl ?_
    refine E.icmpY (q := 76) X33 hx (hb hby d5_23) (XT.ii_ge_t (by decide)) ?_
    refine E.iload (q := 78) X33 hx (hb hby d5_76) rfl ?_
    refine E.aloadN (q := 79) X33 hx (hb hby d5_78) rfl rfl ?_
    refine Ends.getF X33 hx hZ hown (host := "") (Or.inl (hw _ (List.mem_of_getElem? (i := 24) rfl))) Via.refl e33 F_t (hb hby d5_79) ?_
    intro T35 X35 e35
    refine Ends.alen X35 hx hZ e35 A_t (hb hby d5_82) (n := (1 : Int32)) rfl ?_
    refine E.icmpN (q := 86) X35 hx (hb hby d5_83) (XT.ii_ge_f (by decide)) ?_
    refine E.aloadN (q := 87) X35 hx (hb hby d5_86) rfl rfl ?_
    refine Ends.getF X35 hx hZ hown (host := "") (Or.inl (hw _ (List.mem_of_getElem? (i := 24) rfl))) Via.refl e35 F_t (hb hby d5_87) ?_
    intro T36 X36 e36
    refine E.iload (q := 92) X36 hx (hb hby d5_90) rfl ?_
    refine Ends.ild X36 hx hZ e36 A_t (i := 0) rfl rfl (hb hby d5_92) ?_
    refine E.iloadN (q := 94) X36 hx (hb hby d5_93) rfl ?_
    by_cases ht : t0 = qt
    · refine E.icmpN (q := 97) X36 hx (hb hby d5_94) (XT.ii_ne_f ht) ?_
      refine E.aloadN (q := 98) X36 hx (hb hby d5_97) rfl rfl ?_
      refine Ends.getF X36 hx hZ hown (host := "") (Or.inl (hw _ (List.mem_of_getElem? (i := 26) rfl))) Via.refl e36 F_p (hb hby d5_98) ?_
      intro T37 X37 e37
      refine E.iload (q := 103) X37 hx (hb hby d5_101) rfl ?_
      refine Ends.ild X37 hx hZ e37 A_p (i := 0) rfl rfl (hb hby d5_103) ?_
      refine E.iloadN (q := 105) X37 hx (hb hby d5_104) rfl ?_
      by_cases hp : p0 = qp
      · refine E.icmpN (q := 108) X37 hx (hb hby d5_105) (XT.ii_ne_f hp) ?_
        refine E.iload (q := 110) X37 hx (hb hby d5_108) rfl ?_
        refine E.goto (q := 114) X37 hx (hb hby d5_110) ?_
        exact Ends.retI X37 hx hlk hret (hb hby d5_114) (by decide) (by decide) ⟨by rw [if_pos ⟨ht.symm, hp.symm⟩], e37, rfl⟩
      · refine E.icmpY (q := 113) X37 hx (hb hby d5_105) (XT.ii_ne_t hp) ?_
        refine E.iconst (q := 114) (v := (-1 : Int32)) X37 hx (hb hby d5_113) rfl ?_
        exact Ends.retI X37 hx hlk hret (hb hby d5_114) (by decide) (by decide) ⟨by rw [if_neg (fun q => hp q.2.symm)], e37, rfl⟩
    · refine E.icmpY (q := 113) X36 hx (hb hby d5_94) (XT.ii_ne_t ht) ?_
      refine E.iconst (q := 114) (v := (-1 : Int32)) X36 hx (hb hby d5_113) rfl ?_
      exact Ends.retI X36 hx hlk hret (hb hby d5_114) (by decide) (by decide) ⟨by rw [if_neg (fun q => ht q.1.symm)], e36, rfl⟩
theorem efF2 (m : MethodId) (x0 : Addr) (x1 : Int32) (x2 : Int32) : entryFrame m #[(.ref x0), (.int x1), (.int x2)] 8 = mkF m 0 #[.val (.ref x0), .val (.int x1), .val (.int x2), .unset, .unset, .unset, .unset, .unset] [] := by first | (simp [entryFrame, mkF, argsToLocals, Value.category]; done) | rfl
set_option maxRecDepth 65536 in
set_option maxHeartbeats 40000000 in
theorem rmF2 (l : Launch) (Z : State) (a0 : Array Value) (hw : ∀ d ∈ tables_1, d.before a0 Z = true) (oa : Addr) (qt : Int32) (qp : Int32) (oT oP : Addr) (t0 p0 t1 p1 : Int32) (h0 : Heap) (F_t : Fld Z h0 oa "com/example/hourline/hourline/network/Timetable$Calls" "trips" "[I" (.ref oT)) (F_p : Fld Z h0 oa "com/example/hourline/hourline/network/Timetable$Calls" "positions" "[I" (.ref oP)) (A_t : Ary Z h0 oT .int [(.int t0), (.int t1)]) (A_p : Ary Z h0 oP .int [(.int p0), (.int p1)]) (S0 : own_kk t0 p0 < own_kk t1 p1) :
    Con l (⟨"com/example/hourline/hourline/network/Timetable$Calls", "find", "(II)I"⟩ : MethodName) prog_144_method_7_code 8 (some .int) [] ({ frames := 0, cells := 0, slots := 0, locals := 0 } : Room) #[(.ref oa), (.int qt), (.int qp)] Z h0 (fun v h L => v = some (.int (if qt = t1 ∧ qp = p1 then (1 : Int32) else (if qt = t0 ∧ qp = p0 then (0 : Int32) else (-1 : Int32)))) ∧ h = h0 ∧ L = []) := by
  refine Con.of (plainFor_of_name pn_2) ?_
  intro p e s m below meth c s₁ hx hZ hby hml hown hnm hret hlk X0 e0
  refine Ends.cast (efF2 m oa qt qp) ?_
  show Ends p e below s _ _ _ s₁ (mkF m 0 #[.val (.ref oa), .val (.int qt), .val (.int qp), .unset, .unset, .unset, .unset, .unset] [])
  have O0 := Ok.refl h0 []
  refine E.iloadN (q := 1) X0 hx (hb hby d5_0) rfl ?_
  refine E.i2l (q := 2) X0 hx (hb hby d5_1) ?_
  refine E.bipush (q := 4) (v := (32 : Int32)) X0 hx (hb hby d5_2) rfl ?_
  refine E.lshl (q := 5) X0 hx (hb hby d5_4) ?_
  refine E.iloadN (q := 6) X0 hx (hb hby d5_5) rfl ?_
  refine E.i2l (q := 7) X0 hx (hb hby d5_6) ?_
  refine E.lor (q := 8) X0 hx (hb hby d5_7) ?_
  refine E.lstoreN (q := 9) (l' := #[.val (.ref oa), .val (.int qt), .val (.int qp), .val (.long (((qt.toInt64) <<< ((32 : Int32) &&& 0x3f).toInt64) ||| (qp.toInt64))), .second, .unset, .unset, .unset]) X0 hx (hb hby d5_8) rfl ?_
  refine E.iconst (q := 10) (v := (0 : Int32)) X0 hx (hb hby d5_9) rfl ?_
  refine E.istore (q := 12) (l' := #[.val (.ref oa), .val (.int qt), .val (.int qp), .val (.long (((qt.toInt64) <<< ((32 : Int32) &&& 0x3f).toInt64) ||| (qp.toInt64))), .second, .val (.int (0 : Int32)), .unset, .unset]) X0 hx (hb hby d5_10) rfl ?_
  refine E.aloadN (q := 13) X0 hx (hb hby d5_12) rfl rfl ?_
  refine Ends.getF X0 hx hZ hown (host := "") (Or.inl (hw _ (List.mem_of_getElem? (i := 24) rfl))) Via.refl e0 F_t (hb hby d5_13) ?_
  intro T38 X38 e38
  refine Ends.alen X38 hx hZ e38 A_t (hb hby d5_16) (n := (2 : Int32)) rfl ?_
  refine E.istore (q := 19) (l' := #[.val (.ref oa), .val (.int qt), .val (.int qp), .val (.long (((qt.toInt64) <<< ((32 : Int32) &&& 0x3f).toInt64) ||| (qp.toInt64))), .second, .val (.int (0 : Int32)), .val (.int (2 : Int32)), .unset]) X38 hx (hb hby d5_17) rfl ?_
  refine E.iload (q := 21) X38 hx (hb hby d5_19) rfl ?_
  refine E.iload (q := 23) X38 hx (hb hby d5_21) rfl ?_
  refine E.icmpN (q := 26) X38 hx (hb hby d5_23) (XT.ii_ge_f (by decide)) ?_
  refine E.iload (q := 28) X38 hx (hb hby d5_26) rfl ?_
  refine E.iload (q := 30) X38 hx (hb hby d5_28) rfl ?_
  refine E.iadd (q := 31) X38 hx (hb hby d5_30) ?_
  rw [show ((0 : Int32) + (2 : Int32)) = (2 : Int32) from by decide]
  refine E.iconst (q := 32) (v := (1 : Int32)) X38 hx (hb hby d5_31) rfl ?_
  refine E.iushr (q := 33) X38 hx (hb hby d5_32) ?_
  rw [show (((2 : Int32).toUInt32 >>> ((1 : Int32) &&& 31).toUInt32).toInt32) = (1 : Int32) from by decide]
  refine E.istore (q := 35) (l' := #[.val (.ref oa), .val (.int qt), .val (.int qp), .val (.long (((qt.toInt64) <<< ((32 : Int32) &&& 0x3f).toInt64) ||| (qp.toInt64))), .second, .val (.int (0 : Int32)), .val (.int (2 : Int32)), .val (.int (1 : Int32))]) X38 hx (hb hby d5_33) rfl ?_
  refine E.aloadN (q := 36) X38 hx (hb hby d5_35) rfl rfl ?_
  refine Ends.getF X38 hx hZ hown (host := "") (Or.inl (hw _ (List.mem_of_getElem? (i := 24) rfl))) Via.refl e38 F_t (hb hby d5_36) ?_
  intro T39 X39 e39
  refine E.iload (q := 41) X39 hx (hb hby d5_39) rfl ?_
  refine Ends.ild X39 hx hZ e39 A_t (i := 1) rfl rfl (hb hby d5_41) ?_
  refine E.i2l (q := 43) X39 hx (hb hby d5_42) ?_
  refine E.bipush (q := 45) (v := (32 : Int32)) X39 hx (hb hby d5_43) rfl ?_
  refine E.lshl (q := 46) X39 hx (hb hby d5_45) ?_
  refine E.aloadN (q := 47) X39 hx (hb hby d5_46) rfl rfl ?_
  refine Ends.getF X39 hx hZ hown (host := "") (Or.inl (hw _ (List.mem_of_getElem? (i := 26) rfl))) Via.refl e39 F_p (hb hby d5_47) ?_
  intro T40 X40 e40
  refine E.iload (q := 52) X40 hx (hb hby d5_50) rfl ?_
  refine Ends.ild X40 hx hZ e40 A_p (i := 1) rfl rfl (hb hby d5_52) ?_
  refine E.i2l (q := 54) X40 hx (hb hby d5_53) ?_
  refine E.lor (q := 55) X40 hx (hb hby d5_54) ?_
  refine E.lloadN (q := 56) X40 hx (hb hby d5_55) rfl ?_
  refine E.lcmp (q := 57) X40 hx (hb hby d5_56) ?_
  by_cases hk1 : own_kk t1 p1 < own_kk qt qp
  · refine E.ifN (q := 60) X40 hx (hb hby d5_57) (XT.i0_ge_f ((lw_lt _ _).mpr hk1)) ?_
    refine E.iload (q := 62) X40 hx (hb hby d5_60) rfl ?_
    refine E.iconst (q := 63) (v := (1 : Int32)) X40 hx (hb hby d5_62) rfl ?_
    refine E.iadd (q := 64) X40 hx (hb hby d5_63) ?_
    rw [show ((1 : Int32) + (1 : Int32)) = (2 : Int32) from by decide]
    refine E.istore (q := 66) (l' := #[.val (.ref oa), .val (.int qt), .val (.int qp), .val (.long (((qt.toInt64) <<< ((32 : Int32) &&& 0x3f).toInt64) ||| (qp.toInt64))), .second, .val (.int (2 : Int32)), .val (.int (2 : Int32)), .val (.int (1 : Int32))]) X40 hx (hb hby d5_64) rfl ?_
    refine E.goto (q := 73) X40 hx (hb hby d5_66) ?_
    refine E.goto (q := 19) X40 hx (hb hby d5_73) ?_
    refine E.iload (q := 21) X40 hx (hb hby d5_19) rfl ?_
    refine E.iload (q := 23) X40 hx (hb hby d5_21) rfl ?_
    refine E.icmpY (q := 76) X40 hx (hb hby d5_23) (XT.ii_ge_t (by decide)) ?_
    refine E.iload (q := 78) X40 hx (hb hby d5_76) rfl ?_
    refine E.aloadN (q := 79) X40 hx (hb hby d5_78) rfl rfl ?_
    refine Ends.getF X40 hx hZ hown (host := "") (Or.inl (hw _ (List.mem_of_getElem? (i := 24) rfl))) Via.refl e40 F_t (hb hby d5_79) ?_
    intro T41 X41 e41
    refine Ends.alen X41 hx hZ e41 A_t (hb hby d5_82) (n := (2 : Int32)) rfl ?_
    refine E.icmpY (q := 113) X41 hx (hb hby d5_83) (XT.ii_ge_t (by decide)) ?_
    refine E.iconst (q := 114) (v := (-1 : Int32)) X41 hx (hb hby d5_113) rfl ?_
    exact Ends.retI X41 hx hlk hret (hb hby d5_114) (by decide) (by decide) ⟨by rw [if_neg (own_nm1 hk1), if_neg (own_nm1 (Int64.lt_trans S0 hk1))], e41, rfl⟩
  · refine E.ifY (q := 69) X40 hx (hb hby d5_57) (XT.i0_ge_t (fun q => hk1 ((lw_lt _ _).mp q))) ?_
    refine E.iload (q := 71) X40 hx (hb hby d5_69) rfl ?_
    refine E.istore (q := 73) (l' := #[.val (.ref oa), .val (.int qt), .val (.int qp), .val (.long (((qt.toInt64) <<< ((32 : Int32) &&& 0x3f).toInt64) ||| (qp.toInt64))), .second, .val (.int (0 : Int32)), .val (.int (1 : Int32)), .val (.int (1 : Int32))]) X40 hx (hb hby d5_71) rfl ?_
    refine E.goto (q := 19) X40 hx (hb hby d5_73) ?_
    refine E.iload (q := 21) X40 hx (hb hby d5_19) rfl ?_
    refine E.iload (q := 23) X40 hx (hb hby d5_21) rfl ?_
    refine E.icmpN (q := 26) X40 hx (hb hby d5_23) (XT.ii_ge_f (by decide)) ?_
    refine E.iload (q := 28) X40 hx (hb hby d5_26) rfl ?_
    refine E.iload (q := 30) X40 hx (hb hby d5_28) rfl ?_
    refine E.iadd (q := 31) X40 hx (hb hby d5_30) ?_
    rw [show ((0 : Int32) + (1 : Int32)) = (1 : Int32) from by decide]
    refine E.iconst (q := 32) (v := (1 : Int32)) X40 hx (hb hby d5_31) rfl ?_
    refine E.iushr (q := 33) X40 hx (hb hby d5_32) ?_
    rw [show (((1 : Int32).toUInt32 >>> ((1 : Int32) &&& 31).toUInt32).toInt32) = (0 : Int32) from by decide]
    refine E.istore (q := 35) (l' := #[.val (.ref oa), .val (.int qt), .val (.int qp), .val (.long (((qt.toInt64) <<< ((32 : Int32) &&& 0x3f).toInt64) ||| (qp.toInt64))), .second, .val (.int (0 : Int32)), .val (.int (1 : Int32)), .val (.int (0 : Int32))]) X40 hx (hb hby d5_33) rfl ?_
    refine E.aloadN (q := 36) X40 hx (hb hby d5_35) rfl rfl ?_
    refine Ends.getF X40 hx hZ hown (host := "") (Or.inl (hw _ (List.mem_of_getElem? (i := 24) rfl))) Via.refl e40 F_t (hb hby d5_36) ?_
    intro T42 X42 e42
    refine E.iload (q := 41) X42 hx (hb hby d5_39) rfl ?_
    refine Ends.ild X42 hx hZ e42 A_t (i := 0) rfl rfl (hb hby d5_41) ?_
    refine E.i2l (q := 43) X42 hx (hb hby d5_42) ?_
    refine E.bipush (q := 45) (v := (32 : Int32)) X42 hx (hb hby d5_43) rfl ?_
    refine E.lshl (q := 46) X42 hx (hb hby d5_45) ?_
    refine E.aloadN (q := 47) X42 hx (hb hby d5_46) rfl rfl ?_
    refine Ends.getF X42 hx hZ hown (host := "") (Or.inl (hw _ (List.mem_of_getElem? (i := 26) rfl))) Via.refl e42 F_p (hb hby d5_47) ?_
    intro T43 X43 e43
    refine E.iload (q := 52) X43 hx (hb hby d5_50) rfl ?_
    refine Ends.ild X43 hx hZ e43 A_p (i := 0) rfl rfl (hb hby d5_52) ?_
    refine E.i2l (q := 54) X43 hx (hb hby d5_53) ?_
    refine E.lor (q := 55) X43 hx (hb hby d5_54) ?_
    refine E.lloadN (q := 56) X43 hx (hb hby d5_55) rfl ?_
    refine E.lcmp (q := 57) X43 hx (hb hby d5_56) ?_
    by_cases hk0 : own_kk t0 p0 < own_kk qt qp
    · refine E.ifN (q := 60) X43 hx (hb hby d5_57) (XT.i0_ge_f ((lw_lt _ _).mpr hk0)) ?_
      refine E.iload (q := 62) X43 hx (hb hby d5_60) rfl ?_
      refine E.iconst (q := 63) (v := (1 : Int32)) X43 hx (hb hby d5_62) rfl ?_
      refine E.iadd (q := 64) X43 hx (hb hby d5_63) ?_
      rw [show ((0 : Int32) + (1 : Int32)) = (1 : Int32) from by decide]
      refine E.istore (q := 66) (l' := #[.val (.ref oa), .val (.int qt), .val (.int qp), .val (.long (((qt.toInt64) <<< ((32 : Int32) &&& 0x3f).toInt64) ||| (qp.toInt64))), .second, .val (.int (1 : Int32)), .val (.int (1 : Int32)), .val (.int (0 : Int32))]) X43 hx (hb hby d5_64) rfl ?_
      refine E.goto (q := 73) X43 hx (hb hby d5_66) ?_
      refine E.goto (q := 19) X43 hx (hb hby d5_73) ?_
      refine E.iload (q := 21) X43 hx (hb hby d5_19) rfl ?_
      refine E.iload (q := 23) X43 hx (hb hby d5_21) rfl ?_
      refine E.icmpY (q := 76) X43 hx (hb hby d5_23) (XT.ii_ge_t (by decide)) ?_
      refine E.iload (q := 78) X43 hx (hb hby d5_76) rfl ?_
      refine E.aloadN (q := 79) X43 hx (hb hby d5_78) rfl rfl ?_
      refine Ends.getF X43 hx hZ hown (host := "") (Or.inl (hw _ (List.mem_of_getElem? (i := 24) rfl))) Via.refl e43 F_t (hb hby d5_79) ?_
      intro T44 X44 e44
      refine Ends.alen X44 hx hZ e44 A_t (hb hby d5_82) (n := (2 : Int32)) rfl ?_
      refine E.icmpN (q := 86) X44 hx (hb hby d5_83) (XT.ii_ge_f (by decide)) ?_
      refine E.aloadN (q := 87) X44 hx (hb hby d5_86) rfl rfl ?_
      refine Ends.getF X44 hx hZ hown (host := "") (Or.inl (hw _ (List.mem_of_getElem? (i := 24) rfl))) Via.refl e44 F_t (hb hby d5_87) ?_
      intro T45 X45 e45
      refine E.iload (q := 92) X45 hx (hb hby d5_90) rfl ?_
      refine Ends.ild X45 hx hZ e45 A_t (i := 1) rfl rfl (hb hby d5_92) ?_
      refine E.iloadN (q := 94) X45 hx (hb hby d5_93) rfl ?_
      by_cases ht : t1 = qt
      · refine E.icmpN (q := 97) X45 hx (hb hby d5_94) (XT.ii_ne_f ht) ?_
        refine E.aloadN (q := 98) X45 hx (hb hby d5_97) rfl rfl ?_
        refine Ends.getF X45 hx hZ hown (host := "") (Or.inl (hw _ (List.mem_of_getElem? (i := 26) rfl))) Via.refl e45 F_p (hb hby d5_98) ?_
        intro T46 X46 e46
        refine E.iload (q := 103) X46 hx (hb hby d5_101) rfl ?_
        refine Ends.ild X46 hx hZ e46 A_p (i := 1) rfl rfl (hb hby d5_103) ?_
        refine E.iloadN (q := 105) X46 hx (hb hby d5_104) rfl ?_
        by_cases hp : p1 = qp
        · refine E.icmpN (q := 108) X46 hx (hb hby d5_105) (XT.ii_ne_f hp) ?_
          refine E.iload (q := 110) X46 hx (hb hby d5_108) rfl ?_
          refine E.goto (q := 114) X46 hx (hb hby d5_110) ?_
          exact Ends.retI X46 hx hlk hret (hb hby d5_114) (by decide) (by decide) ⟨by rw [if_pos ⟨ht.symm, hp.symm⟩], e46, rfl⟩
        · refine E.icmpY (q := 113) X46 hx (hb hby d5_105) (XT.ii_ne_t hp) ?_
          refine E.iconst (q := 114) (v := (-1 : Int32)) X46 hx (hb hby d5_113) rfl ?_
          exact Ends.retI X46 hx hlk hret (hb hby d5_114) (by decide) (by decide) ⟨by rw [if_neg (fun q => hp q.2.symm), if_neg (own_nm1 hk0)], e46, rfl⟩
      · refine E.icmpY (q := 113) X45 hx (hb hby d5_94) (XT.ii_ne_t ht) ?_
        refine E.iconst (q := 114) (v := (-1 : Int32)) X45 hx (hb hby d5_113) rfl ?_
        exact Ends.retI X45 hx hlk hret (hb hby d5_114) (by decide) (by decide) ⟨by rw [if_neg (fun q => ht q.1.symm), if_neg (own_nm1 hk0)], e45, rfl⟩
    · refine E.ifY (q := 69) X43 hx (hb hby d5_57) (XT.i0_ge_t (fun q => hk0 ((lw_lt _ _).mp q))) ?_
      refine E.iload (q := 71) X43 hx (hb hby d5_69) rfl ?_
      refine E.istore (q := 73) (l' := #[.val (.ref oa), .val (.int qt), .val (.int qp), .val (.long (((qt.toInt64) <<< ((32 : Int32) &&& 0x3f).toInt64) ||| (qp.toInt64))), .second, .val (.int (0 : Int32)), .val (.int (0 : Int32)), .val (.int (0 : Int32))]) X43 hx (hb hby d5_71) rfl ?_
      refine E.goto (q := 19) X43 hx (hb hby d5_73) ?_
      refine E.iload (q := 21) X43 hx (hb hby d5_19) rfl ?_
      refine E.iload (q := 23) X43 hx (hb hby d5_21) rfl ?_
      refine E.icmpY (q := 76) X43 hx (hb hby d5_23) (XT.ii_ge_t (by decide)) ?_
      refine E.iload (q := 78) X43 hx (hb hby d5_76) rfl ?_
      refine E.aloadN (q := 79) X43 hx (hb hby d5_78) rfl rfl ?_
      refine Ends.getF X43 hx hZ hown (host := "") (Or.inl (hw _ (List.mem_of_getElem? (i := 24) rfl))) Via.refl e43 F_t (hb hby d5_79) ?_
      intro T47 X47 e47
      refine Ends.alen X47 hx hZ e47 A_t (hb hby d5_82) (n := (2 : Int32)) rfl ?_
      refine E.icmpN (q := 86) X47 hx (hb hby d5_83) (XT.ii_ge_f (by decide)) ?_
      refine E.aloadN (q := 87) X47 hx (hb hby d5_86) rfl rfl ?_
      refine Ends.getF X47 hx hZ hown (host := "") (Or.inl (hw _ (List.mem_of_getElem? (i := 24) rfl))) Via.refl e47 F_t (hb hby d5_87) ?_
      intro T48 X48 e48
      refine E.iload (q := 92) X48 hx (hb hby d5_90) rfl ?_
      refine Ends.ild X48 hx hZ e48 A_t (i := 0) rfl rfl (hb hby d5_92) ?_
      refine E.iloadN (q := 94) X48 hx (hb hby d5_93) rfl ?_
      by_cases ht : t0 = qt
      · refine E.icmpN (q := 97) X48 hx (hb hby d5_94) (XT.ii_ne_f ht) ?_
        refine E.aloadN (q := 98) X48 hx (hb hby d5_97) rfl rfl ?_
        refine Ends.getF X48 hx hZ hown (host := "") (Or.inl (hw _ (List.mem_of_getElem? (i := 26) rfl))) Via.refl e48 F_p (hb hby d5_98) ?_
        intro T49 X49 e49
        refine E.iload (q := 103) X49 hx (hb hby d5_101) rfl ?_
        refine Ends.ild X49 hx hZ e49 A_p (i := 0) rfl rfl (hb hby d5_103) ?_
        refine E.iloadN (q := 105) X49 hx (hb hby d5_104) rfl ?_
        by_cases hp : p0 = qp
        · refine E.icmpN (q := 108) X49 hx (hb hby d5_105) (XT.ii_ne_f hp) ?_
          refine E.iload (q := 110) X49 hx (hb hby d5_108) rfl ?_
          refine E.goto (q := 114) X49 hx (hb hby d5_110) ?_
          exact Ends.retI X49 hx hlk hret (hb hby d5_114) (by decide) (by decide) ⟨by rw [if_neg (own_nm2 hk0 S0)]; rw [if_pos ⟨ht.symm, hp.symm⟩], e49, rfl⟩
        · refine E.icmpY (q := 113) X49 hx (hb hby d5_105) (XT.ii_ne_t hp) ?_
          refine E.iconst (q := 114) (v := (-1 : Int32)) X49 hx (hb hby d5_113) rfl ?_
          exact Ends.retI X49 hx hlk hret (hb hby d5_114) (by decide) (by decide) ⟨by rw [if_neg (own_nm2 hk0 S0), if_neg (fun q => hp q.2.symm)], e49, rfl⟩
      · refine E.icmpY (q := 113) X48 hx (hb hby d5_94) (XT.ii_ne_t ht) ?_
        refine E.iconst (q := 114) (v := (-1 : Int32)) X48 hx (hb hby d5_113) rfl ?_
        exact Ends.retI X48 hx hlk hret (hb hby d5_114) (by decide) (by decide) ⟨by rw [if_neg (own_nm2 hk0 S0), if_neg (fun q => ht q.1.symm)], e48, rfl⟩
theorem efF3 (m : MethodId) (x0 : Addr) (x1 : Int32) (x2 : Int32) : entryFrame m #[(.ref x0), (.int x1), (.int x2)] 8 = mkF m 0 #[.val (.ref x0), .val (.int x1), .val (.int x2), .unset, .unset, .unset, .unset, .unset] [] := by first | (simp [entryFrame, mkF, argsToLocals, Value.category]; done) | rfl
set_option maxRecDepth 65536 in
set_option maxHeartbeats 40000000 in
theorem rmF3 (l : Launch) (Z : State) (a0 : Array Value) (hw : ∀ d ∈ tables_1, d.before a0 Z = true) (oa : Addr) (qt : Int32) (qp : Int32) (oT oP : Addr) (t0 p0 t1 p1 t2 p2 : Int32) (h0 : Heap) (F_t : Fld Z h0 oa "com/example/hourline/hourline/network/Timetable$Calls" "trips" "[I" (.ref oT)) (F_p : Fld Z h0 oa "com/example/hourline/hourline/network/Timetable$Calls" "positions" "[I" (.ref oP)) (A_t : Ary Z h0 oT .int [(.int t0), (.int t1), (.int t2)]) (A_p : Ary Z h0 oP .int [(.int p0), (.int p1), (.int p2)]) (S0 : own_kk t0 p0 < own_kk t1 p1) (S1 : own_kk t1 p1 < own_kk t2 p2) :
    Con l (⟨"com/example/hourline/hourline/network/Timetable$Calls", "find", "(II)I"⟩ : MethodName) prog_144_method_7_code 8 (some .int) [] ({ frames := 0, cells := 0, slots := 0, locals := 0 } : Room) #[(.ref oa), (.int qt), (.int qp)] Z h0 (fun v h L => v = some (.int (if qt = t2 ∧ qp = p2 then (2 : Int32) else (if qt = t1 ∧ qp = p1 then (1 : Int32) else (if qt = t0 ∧ qp = p0 then (0 : Int32) else (-1 : Int32))))) ∧ h = h0 ∧ L = []) := by
  refine Con.of (plainFor_of_name pn_2) ?_
  intro p e s m below meth c s₁ hx hZ hby hml hown hnm hret hlk X0 e0
  refine Ends.cast (efF3 m oa qt qp) ?_
  show Ends p e below s _ _ _ s₁ (mkF m 0 #[.val (.ref oa), .val (.int qt), .val (.int qp), .unset, .unset, .unset, .unset, .unset] [])
  have O0 := Ok.refl h0 []
  refine E.iloadN (q := 1) X0 hx (hb hby d5_0) rfl ?_
  refine E.i2l (q := 2) X0 hx (hb hby d5_1) ?_
  refine E.bipush (q := 4) (v := (32 : Int32)) X0 hx (hb hby d5_2) rfl ?_
  refine E.lshl (q := 5) X0 hx (hb hby d5_4) ?_
  refine E.iloadN (q := 6) X0 hx (hb hby d5_5) rfl ?_
  refine E.i2l (q := 7) X0 hx (hb hby d5_6) ?_
  refine E.lor (q := 8) X0 hx (hb hby d5_7) ?_
  refine E.lstoreN (q := 9) (l' := #[.val (.ref oa), .val (.int qt), .val (.int qp), .val (.long (((qt.toInt64) <<< ((32 : Int32) &&& 0x3f).toInt64) ||| (qp.toInt64))), .second, .unset, .unset, .unset]) X0 hx (hb hby d5_8) rfl ?_
  refine E.iconst (q := 10) (v := (0 : Int32)) X0 hx (hb hby d5_9) rfl ?_
  refine E.istore (q := 12) (l' := #[.val (.ref oa), .val (.int qt), .val (.int qp), .val (.long (((qt.toInt64) <<< ((32 : Int32) &&& 0x3f).toInt64) ||| (qp.toInt64))), .second, .val (.int (0 : Int32)), .unset, .unset]) X0 hx (hb hby d5_10) rfl ?_
  refine E.aloadN (q := 13) X0 hx (hb hby d5_12) rfl rfl ?_
  refine Ends.getF X0 hx hZ hown (host := "") (Or.inl (hw _ (List.mem_of_getElem? (i := 24) rfl))) Via.refl e0 F_t (hb hby d5_13) ?_
  intro T50 X50 e50
  refine Ends.alen X50 hx hZ e50 A_t (hb hby d5_16) (n := (3 : Int32)) rfl ?_
  refine E.istore (q := 19) (l' := #[.val (.ref oa), .val (.int qt), .val (.int qp), .val (.long (((qt.toInt64) <<< ((32 : Int32) &&& 0x3f).toInt64) ||| (qp.toInt64))), .second, .val (.int (0 : Int32)), .val (.int (3 : Int32)), .unset]) X50 hx (hb hby d5_17) rfl ?_
  refine E.iload (q := 21) X50 hx (hb hby d5_19) rfl ?_
  refine E.iload (q := 23) X50 hx (hb hby d5_21) rfl ?_
  refine E.icmpN (q := 26) X50 hx (hb hby d5_23) (XT.ii_ge_f (by decide)) ?_
  refine E.iload (q := 28) X50 hx (hb hby d5_26) rfl ?_
  refine E.iload (q := 30) X50 hx (hb hby d5_28) rfl ?_
  refine E.iadd (q := 31) X50 hx (hb hby d5_30) ?_
  rw [show ((0 : Int32) + (3 : Int32)) = (3 : Int32) from by decide]
  refine E.iconst (q := 32) (v := (1 : Int32)) X50 hx (hb hby d5_31) rfl ?_
  refine E.iushr (q := 33) X50 hx (hb hby d5_32) ?_
  rw [show (((3 : Int32).toUInt32 >>> ((1 : Int32) &&& 31).toUInt32).toInt32) = (1 : Int32) from by decide]
  refine E.istore (q := 35) (l' := #[.val (.ref oa), .val (.int qt), .val (.int qp), .val (.long (((qt.toInt64) <<< ((32 : Int32) &&& 0x3f).toInt64) ||| (qp.toInt64))), .second, .val (.int (0 : Int32)), .val (.int (3 : Int32)), .val (.int (1 : Int32))]) X50 hx (hb hby d5_33) rfl ?_
  refine E.aloadN (q := 36) X50 hx (hb hby d5_35) rfl rfl ?_
  refine Ends.getF X50 hx hZ hown (host := "") (Or.inl (hw _ (List.mem_of_getElem? (i := 24) rfl))) Via.refl e50 F_t (hb hby d5_36) ?_
  intro T51 X51 e51
  refine E.iload (q := 41) X51 hx (hb hby d5_39) rfl ?_
  refine Ends.ild X51 hx hZ e51 A_t (i := 1) rfl rfl (hb hby d5_41) ?_
  refine E.i2l (q := 43) X51 hx (hb hby d5_42) ?_
  refine E.bipush (q := 45) (v := (32 : Int32)) X51 hx (hb hby d5_43) rfl ?_
  refine E.lshl (q := 46) X51 hx (hb hby d5_45) ?_
  refine E.aloadN (q := 47) X51 hx (hb hby d5_46) rfl rfl ?_
  refine Ends.getF X51 hx hZ hown (host := "") (Or.inl (hw _ (List.mem_of_getElem? (i := 26) rfl))) Via.refl e51 F_p (hb hby d5_47) ?_
  intro T52 X52 e52
  refine E.iload (q := 52) X52 hx (hb hby d5_50) rfl ?_
  refine Ends.ild X52 hx hZ e52 A_p (i := 1) rfl rfl (hb hby d5_52) ?_
  refine E.i2l (q := 54) X52 hx (hb hby d5_53) ?_
  refine E.lor (q := 55) X52 hx (hb hby d5_54) ?_
  refine E.lloadN (q := 56) X52 hx (hb hby d5_55) rfl ?_
  refine E.lcmp (q := 57) X52 hx (hb hby d5_56) ?_
  by_cases hk1 : own_kk t1 p1 < own_kk qt qp
  · refine E.ifN (q := 60) X52 hx (hb hby d5_57) (XT.i0_ge_f ((lw_lt _ _).mpr hk1)) ?_
    refine E.iload (q := 62) X52 hx (hb hby d5_60) rfl ?_
    refine E.iconst (q := 63) (v := (1 : Int32)) X52 hx (hb hby d5_62) rfl ?_
    refine E.iadd (q := 64) X52 hx (hb hby d5_63) ?_
    rw [show ((1 : Int32) + (1 : Int32)) = (2 : Int32) from by decide]
    refine E.istore (q := 66) (l' := #[.val (.ref oa), .val (.int qt), .val (.int qp), .val (.long (((qt.toInt64) <<< ((32 : Int32) &&& 0x3f).toInt64) ||| (qp.toInt64))), .second, .val (.int (2 : Int32)), .val (.int (3 : Int32)), .val (.int (1 : Int32))]) X52 hx (hb hby d5_64) rfl ?_
    refine E.goto (q := 73) X52 hx (hb hby d5_66) ?_
    refine E.goto (q := 19) X52 hx (hb hby d5_73) ?_
    refine E.iload (q := 21) X52 hx (hb hby d5_19) rfl ?_
    refine E.iload (q := 23) X52 hx (hb hby d5_21) rfl ?_
    refine E.icmpN (q := 26) X52 hx (hb hby d5_23) (XT.ii_ge_f (by decide)) ?_
    refine E.iload (q := 28) X52 hx (hb hby d5_26) rfl ?_
    refine E.iload (q := 30) X52 hx (hb hby d5_28) rfl ?_
    refine E.iadd (q := 31) X52 hx (hb hby d5_30) ?_
    rw [show ((2 : Int32) + (3 : Int32)) = (5 : Int32) from by decide]
    refine E.iconst (q := 32) (v := (1 : Int32)) X52 hx (hb hby d5_31) rfl ?_
    refine E.iushr (q := 33) X52 hx (hb hby d5_32) ?_
    rw [show (((5 : Int32).toUInt32 >>> ((1 : Int32) &&& 31).toUInt32).toInt32) = (2 : Int32) from by decide]
    refine E.istore (q := 35) (l' := #[.val (.ref oa), .val (.int qt), .val (.int qp), .val (.long (((qt.toInt64) <<< ((32 : Int32) &&& 0x3f).toInt64) ||| (qp.toInt64))), .second, .val (.int (2 : Int32)), .val (.int (3 : Int32)), .val (.int (2 : Int32))]) X52 hx (hb hby d5_33) rfl ?_
    refine E.aloadN (q := 36) X52 hx (hb hby d5_35) rfl rfl ?_
    refine Ends.getF X52 hx hZ hown (host := "") (Or.inl (hw _ (List.mem_of_getElem? (i := 24) rfl))) Via.refl e52 F_t (hb hby d5_36) ?_
    intro T53 X53 e53
    refine E.iload (q := 41) X53 hx (hb hby d5_39) rfl ?_
    refine Ends.ild X53 hx hZ e53 A_t (i := 2) rfl rfl (hb hby d5_41) ?_
    refine E.i2l (q := 43) X53 hx (hb hby d5_42) ?_
    refine E.bipush (q := 45) (v := (32 : Int32)) X53 hx (hb hby d5_43) rfl ?_
    refine E.lshl (q := 46) X53 hx (hb hby d5_45) ?_
    refine E.aloadN (q := 47) X53 hx (hb hby d5_46) rfl rfl ?_
    refine Ends.getF X53 hx hZ hown (host := "") (Or.inl (hw _ (List.mem_of_getElem? (i := 26) rfl))) Via.refl e53 F_p (hb hby d5_47) ?_
    intro T54 X54 e54
    refine E.iload (q := 52) X54 hx (hb hby d5_50) rfl ?_
    refine Ends.ild X54 hx hZ e54 A_p (i := 2) rfl rfl (hb hby d5_52) ?_
    refine E.i2l (q := 54) X54 hx (hb hby d5_53) ?_
    refine E.lor (q := 55) X54 hx (hb hby d5_54) ?_
    refine E.lloadN (q := 56) X54 hx (hb hby d5_55) rfl ?_
    refine E.lcmp (q := 57) X54 hx (hb hby d5_56) ?_
    by_cases hk2 : own_kk t2 p2 < own_kk qt qp
    · refine E.ifN (q := 60) X54 hx (hb hby d5_57) (XT.i0_ge_f ((lw_lt _ _).mpr hk2)) ?_
      refine E.iload (q := 62) X54 hx (hb hby d5_60) rfl ?_
      refine E.iconst (q := 63) (v := (1 : Int32)) X54 hx (hb hby d5_62) rfl ?_
      refine E.iadd (q := 64) X54 hx (hb hby d5_63) ?_
      rw [show ((2 : Int32) + (1 : Int32)) = (3 : Int32) from by decide]
      refine E.istore (q := 66) (l' := #[.val (.ref oa), .val (.int qt), .val (.int qp), .val (.long (((qt.toInt64) <<< ((32 : Int32) &&& 0x3f).toInt64) ||| (qp.toInt64))), .second, .val (.int (3 : Int32)), .val (.int (3 : Int32)), .val (.int (2 : Int32))]) X54 hx (hb hby d5_64) rfl ?_
      refine E.goto (q := 73) X54 hx (hb hby d5_66) ?_
      refine E.goto (q := 19) X54 hx (hb hby d5_73) ?_
      refine E.iload (q := 21) X54 hx (hb hby d5_19) rfl ?_
      refine E.iload (q := 23) X54 hx (hb hby d5_21) rfl ?_
      refine E.icmpY (q := 76) X54 hx (hb hby d5_23) (XT.ii_ge_t (by decide)) ?_
      refine E.iload (q := 78) X54 hx (hb hby d5_76) rfl ?_
      refine E.aloadN (q := 79) X54 hx (hb hby d5_78) rfl rfl ?_
      refine Ends.getF X54 hx hZ hown (host := "") (Or.inl (hw _ (List.mem_of_getElem? (i := 24) rfl))) Via.refl e54 F_t (hb hby d5_79) ?_
      intro T55 X55 e55
      refine Ends.alen X55 hx hZ e55 A_t (hb hby d5_82) (n := (3 : Int32)) rfl ?_
      refine E.icmpY (q := 113) X55 hx (hb hby d5_83) (XT.ii_ge_t (by decide)) ?_
      refine E.iconst (q := 114) (v := (-1 : Int32)) X55 hx (hb hby d5_113) rfl ?_
      exact Ends.retI X55 hx hlk hret (hb hby d5_114) (by decide) (by decide) ⟨by rw [if_neg (own_nm1 hk2), if_neg (own_nm1 (Int64.lt_trans S1 hk2)), if_neg (own_nm1 (Int64.lt_trans (Int64.lt_trans S0 S1) hk2))], e55, rfl⟩
    · refine E.ifY (q := 69) X54 hx (hb hby d5_57) (XT.i0_ge_t (fun q => hk2 ((lw_lt _ _).mp q))) ?_
      refine E.iload (q := 71) X54 hx (hb hby d5_69) rfl ?_
      refine E.istore (q := 73) (l' := #[.val (.ref oa), .val (.int qt), .val (.int qp), .val (.long (((qt.toInt64) <<< ((32 : Int32) &&& 0x3f).toInt64) ||| (qp.toInt64))), .second, .val (.int (2 : Int32)), .val (.int (2 : Int32)), .val (.int (2 : Int32))]) X54 hx (hb hby d5_71) rfl ?_
      refine E.goto (q := 19) X54 hx (hb hby d5_73) ?_
      refine E.iload (q := 21) X54 hx (hb hby d5_19) rfl ?_
      refine E.iload (q := 23) X54 hx (hb hby d5_21) rfl ?_
      refine E.icmpY (q := 76) X54 hx (hb hby d5_23) (XT.ii_ge_t (by decide)) ?_
      refine E.iload (q := 78) X54 hx (hb hby d5_76) rfl ?_
      refine E.aloadN (q := 79) X54 hx (hb hby d5_78) rfl rfl ?_
      refine Ends.getF X54 hx hZ hown (host := "") (Or.inl (hw _ (List.mem_of_getElem? (i := 24) rfl))) Via.refl e54 F_t (hb hby d5_79) ?_
      intro T56 X56 e56
      refine Ends.alen X56 hx hZ e56 A_t (hb hby d5_82) (n := (3 : Int32)) rfl ?_
      refine E.icmpN (q := 86) X56 hx (hb hby d5_83) (XT.ii_ge_f (by decide)) ?_
      refine E.aloadN (q := 87) X56 hx (hb hby d5_86) rfl rfl ?_
      refine Ends.getF X56 hx hZ hown (host := "") (Or.inl (hw _ (List.mem_of_getElem? (i := 24) rfl))) Via.refl e56 F_t (hb hby d5_87) ?_
      intro T57 X57 e57
      refine E.iload (q := 92) X57 hx (hb hby d5_90) rfl ?_
      refine Ends.ild X57 hx hZ e57 A_t (i := 2) rfl rfl (hb hby d5_92) ?_
      refine E.iloadN (q := 94) X57 hx (hb hby d5_93) rfl ?_
      by_cases ht : t2 = qt
      · refine E.icmpN (q := 97) X57 hx (hb hby d5_94) (XT.ii_ne_f ht) ?_
        refine E.aloadN (q := 98) X57 hx (hb hby d5_97) rfl rfl ?_
        refine Ends.getF X57 hx hZ hown (host := "") (Or.inl (hw _ (List.mem_of_getElem? (i := 26) rfl))) Via.refl e57 F_p (hb hby d5_98) ?_
        intro T58 X58 e58
        refine E.iload (q := 103) X58 hx (hb hby d5_101) rfl ?_
        refine Ends.ild X58 hx hZ e58 A_p (i := 2) rfl rfl (hb hby d5_103) ?_
        refine E.iloadN (q := 105) X58 hx (hb hby d5_104) rfl ?_
        by_cases hp : p2 = qp
        · refine E.icmpN (q := 108) X58 hx (hb hby d5_105) (XT.ii_ne_f hp) ?_
          refine E.iload (q := 110) X58 hx (hb hby d5_108) rfl ?_
          refine E.goto (q := 114) X58 hx (hb hby d5_110) ?_
          exact Ends.retI X58 hx hlk hret (hb hby d5_114) (by decide) (by decide) ⟨by rw [if_pos ⟨ht.symm, hp.symm⟩], e58, rfl⟩
        · refine E.icmpY (q := 113) X58 hx (hb hby d5_105) (XT.ii_ne_t hp) ?_
          refine E.iconst (q := 114) (v := (-1 : Int32)) X58 hx (hb hby d5_113) rfl ?_
          exact Ends.retI X58 hx hlk hret (hb hby d5_114) (by decide) (by decide) ⟨by rw [if_neg (fun q => hp q.2.symm), if_neg (own_nm1 hk1), if_neg (own_nm1 (Int64.lt_trans S0 hk1))], e58, rfl⟩
      · refine E.icmpY (q := 113) X57 hx (hb hby d5_94) (XT.ii_ne_t ht) ?_
        refine E.iconst (q := 114) (v := (-1 : Int32)) X57 hx (hb hby d5_113) rfl ?_
        exact Ends.retI X57 hx hlk hret (hb hby d5_114) (by decide) (by decide) ⟨by rw [if_neg (fun q => ht q.1.symm), if_neg (own_nm1 hk1), if_neg (own_nm1 (Int64.lt_trans S0 hk1))], e57, rfl⟩
  · refine E.ifY (q := 69) X52 hx (hb hby d5_57) (XT.i0_ge_t (fun q => hk1 ((lw_lt _ _).mp q))) ?_
    refine E.iload (q := 71) X52 hx (hb hby d5_69) rfl ?_
    refine E.istore (q := 73) (l' := #[.val (.ref oa), .val (.int qt), .val (.int qp), .val (.long (((qt.toInt64) <<< ((32 : Int32) &&& 0x3f).toInt64) ||| (qp.toInt64))), .second, .val (.int (0 : Int32)), .val (.int (1 : Int32)), .val (.int (1 : Int32))]) X52 hx (hb hby d5_71) rfl ?_
    refine E.goto (q := 19) X52 hx (hb hby d5_73) ?_
    refine E.iload (q := 21) X52 hx (hb hby d5_19) rfl ?_
    refine E.iload (q := 23) X52 hx (hb hby d5_21) rfl ?_
    refine E.icmpN (q := 26) X52 hx (hb hby d5_23) (XT.ii_ge_f (by decide)) ?_
    refine E.iload (q := 28) X52 hx (hb hby d5_26) rfl ?_
    refine E.iload (q := 30) X52 hx (hb hby d5_28) rfl ?_
    refine E.iadd (q := 31) X52 hx (hb hby d5_30) ?_
    rw [show ((0 : Int32) + (1 : Int32)) = (1 : Int32) from by decide]
    refine E.iconst (q := 32) (v := (1 : Int32)) X52 hx (hb hby d5_31) rfl ?_
    refine E.iushr (q := 33) X52 hx (hb hby d5_32) ?_
    rw [show (((1 : Int32).toUInt32 >>> ((1 : Int32) &&& 31).toUInt32).toInt32) = (0 : Int32) from by decide]
    refine E.istore (q := 35) (l' := #[.val (.ref oa), .val (.int qt), .val (.int qp), .val (.long (((qt.toInt64) <<< ((32 : Int32) &&& 0x3f).toInt64) ||| (qp.toInt64))), .second, .val (.int (0 : Int32)), .val (.int (1 : Int32)), .val (.int (0 : Int32))]) X52 hx (hb hby d5_33) rfl ?_
    refine E.aloadN (q := 36) X52 hx (hb hby d5_35) rfl rfl ?_
    refine Ends.getF X52 hx hZ hown (host := "") (Or.inl (hw _ (List.mem_of_getElem? (i := 24) rfl))) Via.refl e52 F_t (hb hby d5_36) ?_
    intro T59 X59 e59
    refine E.iload (q := 41) X59 hx (hb hby d5_39) rfl ?_
    refine Ends.ild X59 hx hZ e59 A_t (i := 0) rfl rfl (hb hby d5_41) ?_
    refine E.i2l (q := 43) X59 hx (hb hby d5_42) ?_
    refine E.bipush (q := 45) (v := (32 : Int32)) X59 hx (hb hby d5_43) rfl ?_
    refine E.lshl (q := 46) X59 hx (hb hby d5_45) ?_
    refine E.aloadN (q := 47) X59 hx (hb hby d5_46) rfl rfl ?_
    refine Ends.getF X59 hx hZ hown (host := "") (Or.inl (hw _ (List.mem_of_getElem? (i := 26) rfl))) Via.refl e59 F_p (hb hby d5_47) ?_
    intro T60 X60 e60
    refine E.iload (q := 52) X60 hx (hb hby d5_50) rfl ?_
    refine Ends.ild X60 hx hZ e60 A_p (i := 0) rfl rfl (hb hby d5_52) ?_
    refine E.i2l (q := 54) X60 hx (hb hby d5_53) ?_
    refine E.lor (q := 55) X60 hx (hb hby d5_54) ?_
    refine E.lloadN (q := 56) X60 hx (hb hby d5_55) rfl ?_
    refine E.lcmp (q := 57) X60 hx (hb hby d5_56) ?_
    by_cases hk0 : own_kk t0 p0 < own_kk qt qp
    · refine E.ifN (q := 60) X60 hx (hb hby d5_57) (XT.i0_ge_f ((lw_lt _ _).mpr hk0)) ?_
      refine E.iload (q := 62) X60 hx (hb hby d5_60) rfl ?_
      refine E.iconst (q := 63) (v := (1 : Int32)) X60 hx (hb hby d5_62) rfl ?_
      refine E.iadd (q := 64) X60 hx (hb hby d5_63) ?_
      rw [show ((0 : Int32) + (1 : Int32)) = (1 : Int32) from by decide]
      refine E.istore (q := 66) (l' := #[.val (.ref oa), .val (.int qt), .val (.int qp), .val (.long (((qt.toInt64) <<< ((32 : Int32) &&& 0x3f).toInt64) ||| (qp.toInt64))), .second, .val (.int (1 : Int32)), .val (.int (1 : Int32)), .val (.int (0 : Int32))]) X60 hx (hb hby d5_64) rfl ?_
      refine E.goto (q := 73) X60 hx (hb hby d5_66) ?_
      refine E.goto (q := 19) X60 hx (hb hby d5_73) ?_
      refine E.iload (q := 21) X60 hx (hb hby d5_19) rfl ?_
      refine E.iload (q := 23) X60 hx (hb hby d5_21) rfl ?_
      refine E.icmpY (q := 76) X60 hx (hb hby d5_23) (XT.ii_ge_t (by decide)) ?_
      refine E.iload (q := 78) X60 hx (hb hby d5_76) rfl ?_
      refine E.aloadN (q := 79) X60 hx (hb hby d5_78) rfl rfl ?_
      refine Ends.getF X60 hx hZ hown (host := "") (Or.inl (hw _ (List.mem_of_getElem? (i := 24) rfl))) Via.refl e60 F_t (hb hby d5_79) ?_
      intro T61 X61 e61
      refine Ends.alen X61 hx hZ e61 A_t (hb hby d5_82) (n := (3 : Int32)) rfl ?_
      refine E.icmpN (q := 86) X61 hx (hb hby d5_83) (XT.ii_ge_f (by decide)) ?_
      refine E.aloadN (q := 87) X61 hx (hb hby d5_86) rfl rfl ?_
      refine Ends.getF X61 hx hZ hown (host := "") (Or.inl (hw _ (List.mem_of_getElem? (i := 24) rfl))) Via.refl e61 F_t (hb hby d5_87) ?_
      intro T62 X62 e62
      refine E.iload (q := 92) X62 hx (hb hby d5_90) rfl ?_
      refine Ends.ild X62 hx hZ e62 A_t (i := 1) rfl rfl (hb hby d5_92) ?_
      refine E.iloadN (q := 94) X62 hx (hb hby d5_93) rfl ?_
      by_cases ht : t1 = qt
      · refine E.icmpN (q := 97) X62 hx (hb hby d5_94) (XT.ii_ne_f ht) ?_
        refine E.aloadN (q := 98) X62 hx (hb hby d5_97) rfl rfl ?_
        refine Ends.getF X62 hx hZ hown (host := "") (Or.inl (hw _ (List.mem_of_getElem? (i := 26) rfl))) Via.refl e62 F_p (hb hby d5_98) ?_
        intro T63 X63 e63
        refine E.iload (q := 103) X63 hx (hb hby d5_101) rfl ?_
        refine Ends.ild X63 hx hZ e63 A_p (i := 1) rfl rfl (hb hby d5_103) ?_
        refine E.iloadN (q := 105) X63 hx (hb hby d5_104) rfl ?_
        by_cases hp : p1 = qp
        · refine E.icmpN (q := 108) X63 hx (hb hby d5_105) (XT.ii_ne_f hp) ?_
          refine E.iload (q := 110) X63 hx (hb hby d5_108) rfl ?_
          refine E.goto (q := 114) X63 hx (hb hby d5_110) ?_
          exact Ends.retI X63 hx hlk hret (hb hby d5_114) (by decide) (by decide) ⟨by rw [if_neg (own_nm2 hk1 S1)]; rw [if_pos ⟨ht.symm, hp.symm⟩], e63, rfl⟩
        · refine E.icmpY (q := 113) X63 hx (hb hby d5_105) (XT.ii_ne_t hp) ?_
          refine E.iconst (q := 114) (v := (-1 : Int32)) X63 hx (hb hby d5_113) rfl ?_
          exact Ends.retI X63 hx hlk hret (hb hby d5_114) (by decide) (by decide) ⟨by rw [if_neg (own_nm2 hk1 S1), if_neg (fun q => hp q.2.symm), if_neg (own_nm1 hk0)], e63, rfl⟩
      · refine E.icmpY (q := 113) X62 hx (hb hby d5_94) (XT.ii_ne_t ht) ?_
        refine E.iconst (q := 114) (v := (-1 : Int32)) X62 hx (hb hby d5_113) rfl ?_
        exact Ends.retI X62 hx hlk hret (hb hby d5_114) (by decide) (by decide) ⟨by rw [if_neg (own_nm2 hk1 S1), if_neg (fun q => ht q.1.symm), if_neg (own_nm1 hk0)], e62, rfl⟩
    · refine E.ifY (q := 69) X60 hx (hb hby d5_57) (XT.i0_ge_t (fun q => hk0 ((lw_lt _ _).mp q))) ?_
      refine E.iload (q := 71) X60 hx (hb hby d5_69) rfl ?_
      refine E.istore (q := 73) (l' := #[.val (.ref oa), .val (.int qt), .val (.int qp), .val (.long (((qt.toInt64) <<< ((32 : Int32) &&& 0x3f).toInt64) ||| (qp.toInt64))), .second, .val (.int (0 : Int32)), .val (.int (0 : Int32)), .val (.int (0 : Int32))]) X60 hx (hb hby d5_71) rfl ?_
      refine E.goto (q := 19) X60 hx (hb hby d5_73) ?_
      refine E.iload (q := 21) X60 hx (hb hby d5_19) rfl ?_
      refine E.iload (q := 23) X60 hx (hb hby d5_21) rfl ?_
      refine E.icmpY (q := 76) X60 hx (hb hby d5_23) (XT.ii_ge_t (by decide)) ?_
      refine E.iload (q := 78) X60 hx (hb hby d5_76) rfl ?_
      refine E.aloadN (q := 79) X60 hx (hb hby d5_78) rfl rfl ?_
      refine Ends.getF X60 hx hZ hown (host := "") (Or.inl (hw _ (List.mem_of_getElem? (i := 24) rfl))) Via.refl e60 F_t (hb hby d5_79) ?_
      intro T64 X64 e64
      refine Ends.alen X64 hx hZ e64 A_t (hb hby d5_82) (n := (3 : Int32)) rfl ?_
      refine E.icmpN (q := 86) X64 hx (hb hby d5_83) (XT.ii_ge_f (by decide)) ?_
      refine E.aloadN (q := 87) X64 hx (hb hby d5_86) rfl rfl ?_
      refine Ends.getF X64 hx hZ hown (host := "") (Or.inl (hw _ (List.mem_of_getElem? (i := 24) rfl))) Via.refl e64 F_t (hb hby d5_87) ?_
      intro T65 X65 e65
      refine E.iload (q := 92) X65 hx (hb hby d5_90) rfl ?_
      refine Ends.ild X65 hx hZ e65 A_t (i := 0) rfl rfl (hb hby d5_92) ?_
      refine E.iloadN (q := 94) X65 hx (hb hby d5_93) rfl ?_
      by_cases ht : t0 = qt
      · refine E.icmpN (q := 97) X65 hx (hb hby d5_94) (XT.ii_ne_f ht) ?_
        refine E.aloadN (q := 98) X65 hx (hb hby d5_97) rfl rfl ?_
        refine Ends.getF X65 hx hZ hown (host := "") (Or.inl (hw _ (List.mem_of_getElem? (i := 26) rfl))) Via.refl e65 F_p (hb hby d5_98) ?_
        intro T66 X66 e66
        refine E.iload (q := 103) X66 hx (hb hby d5_101) rfl ?_
        refine Ends.ild X66 hx hZ e66 A_p (i := 0) rfl rfl (hb hby d5_103) ?_
        refine E.iloadN (q := 105) X66 hx (hb hby d5_104) rfl ?_
        by_cases hp : p0 = qp
        · refine E.icmpN (q := 108) X66 hx (hb hby d5_105) (XT.ii_ne_f hp) ?_
          refine E.iload (q := 110) X66 hx (hb hby d5_108) rfl ?_
          refine E.goto (q := 114) X66 hx (hb hby d5_110) ?_
          exact Ends.retI X66 hx hlk hret (hb hby d5_114) (by decide) (by decide) ⟨by rw [if_neg (own_nm2 hk0 (Int64.lt_trans S0 S1)), if_neg (own_nm2 hk0 S0)]; rw [if_pos ⟨ht.symm, hp.symm⟩], e66, rfl⟩
        · refine E.icmpY (q := 113) X66 hx (hb hby d5_105) (XT.ii_ne_t hp) ?_
          refine E.iconst (q := 114) (v := (-1 : Int32)) X66 hx (hb hby d5_113) rfl ?_
          exact Ends.retI X66 hx hlk hret (hb hby d5_114) (by decide) (by decide) ⟨by rw [if_neg (own_nm2 hk0 (Int64.lt_trans S0 S1)), if_neg (own_nm2 hk0 S0), if_neg (fun q => hp q.2.symm)], e66, rfl⟩
      · refine E.icmpY (q := 113) X65 hx (hb hby d5_94) (XT.ii_ne_t ht) ?_
        refine E.iconst (q := 114) (v := (-1 : Int32)) X65 hx (hb hby d5_113) rfl ?_
        exact Ends.retI X65 hx hlk hret (hb hby d5_114) (by decide) (by decide) ⟨by rw [if_neg (own_nm2 hk0 (Int64.lt_trans S0 S1)), if_neg (own_nm2 hk0 S0), if_neg (fun q => ht q.1.symm)], e65, rfl⟩
theorem efF4 (m : MethodId) (x0 : Addr) (x1 : Int32) (x2 : Int32) : entryFrame m #[(.ref x0), (.int x1), (.int x2)] 8 = mkF m 0 #[.val (.ref x0), .val (.int x1), .val (.int x2), .unset, .unset, .unset, .unset, .unset] [] := by first | (simp [entryFrame, mkF, argsToLocals, Value.category]; done) | rfl
set_option maxRecDepth 65536 in
set_option maxHeartbeats 40000000 in
theorem rmF4 (l : Launch) (Z : State) (a0 : Array Value) (hw : ∀ d ∈ tables_1, d.before a0 Z = true) (oa : Addr) (qt : Int32) (qp : Int32) (oT oP : Addr) (t0 p0 t1 p1 t2 p2 t3 p3 : Int32) (h0 : Heap) (F_t : Fld Z h0 oa "com/example/hourline/hourline/network/Timetable$Calls" "trips" "[I" (.ref oT)) (F_p : Fld Z h0 oa "com/example/hourline/hourline/network/Timetable$Calls" "positions" "[I" (.ref oP)) (A_t : Ary Z h0 oT .int [(.int t0), (.int t1), (.int t2), (.int t3)]) (A_p : Ary Z h0 oP .int [(.int p0), (.int p1), (.int p2), (.int p3)]) (S0 : own_kk t0 p0 < own_kk t1 p1) (S1 : own_kk t1 p1 < own_kk t2 p2) (S2 : own_kk t2 p2 < own_kk t3 p3) :
    Con l (⟨"com/example/hourline/hourline/network/Timetable$Calls", "find", "(II)I"⟩ : MethodName) prog_144_method_7_code 8 (some .int) [] ({ frames := 0, cells := 0, slots := 0, locals := 0 } : Room) #[(.ref oa), (.int qt), (.int qp)] Z h0 (fun v h L => v = some (.int (if qt = t3 ∧ qp = p3 then (3 : Int32) else (if qt = t2 ∧ qp = p2 then (2 : Int32) else (if qt = t1 ∧ qp = p1 then (1 : Int32) else (if qt = t0 ∧ qp = p0 then (0 : Int32) else (-1 : Int32)))))) ∧ h = h0 ∧ L = []) := by
  refine Con.of (plainFor_of_name pn_2) ?_
  intro p e s m below meth c s₁ hx hZ hby hml hown hnm hret hlk X0 e0
  refine Ends.cast (efF4 m oa qt qp) ?_
  show Ends p e below s _ _ _ s₁ (mkF m 0 #[.val (.ref oa), .val (.int qt), .val (.int qp), .unset, .unset, .unset, .unset, .unset] [])
  have O0 := Ok.refl h0 []
  refine E.iloadN (q := 1) X0 hx (hb hby d5_0) rfl ?_
  refine E.i2l (q := 2) X0 hx (hb hby d5_1) ?_
  refine E.bipush (q := 4) (v := (32 : Int32)) X0 hx (hb hby d5_2) rfl ?_
  refine E.lshl (q := 5) X0 hx (hb hby d5_4) ?_
  refine E.iloadN (q := 6) X0 hx (hb hby d5_5) rfl ?_
  refine E.i2l (q := 7) X0 hx (hb hby d5_6) ?_
  refine E.lor (q := 8) X0 hx (hb hby d5_7) ?_
  refine E.lstoreN (q := 9) (l' := #[.val (.ref oa), .val (.int qt), .val (.int qp), .val (.long (((qt.toInt64) <<< ((32 : Int32) &&& 0x3f).toInt64) ||| (qp.toInt64))), .second, .unset, .unset, .unset]) X0 hx (hb hby d5_8) rfl ?_
  refine E.iconst (q := 10) (v := (0 : Int32)) X0 hx (hb hby d5_9) rfl ?_
  refine E.istore (q := 12) (l' := #[.val (.ref oa), .val (.int qt), .val (.int qp), .val (.long (((qt.toInt64) <<< ((32 : Int32) &&& 0x3f).toInt64) ||| (qp.toInt64))), .second, .val (.int (0 : Int32)), .unset, .unset]) X0 hx (hb hby d5_10) rfl ?_
  refine E.aloadN (q := 13) X0 hx (hb hby d5_12) rfl rfl ?_
  refine Ends.getF X0 hx hZ hown (host := "") (Or.inl (hw _ (List.mem_of_getElem? (i := 24) rfl))) Via.refl e0 F_t (hb hby d5_13) ?_
  intro T67 X67 e67
  refine Ends.alen X67 hx hZ e67 A_t (hb hby d5_16) (n := (4 : Int32)) rfl ?_
  refine E.istore (q := 19) (l' := #[.val (.ref oa), .val (.int qt), .val (.int qp), .val (.long (((qt.toInt64) <<< ((32 : Int32) &&& 0x3f).toInt64) ||| (qp.toInt64))), .second, .val (.int (0 : Int32)), .val (.int (4 : Int32)), .unset]) X67 hx (hb hby d5_17) rfl ?_
  refine E.iload (q := 21) X67 hx (hb hby d5_19) rfl ?_
  refine E.iload (q := 23) X67 hx (hb hby d5_21) rfl ?_
  refine E.icmpN (q := 26) X67 hx (hb hby d5_23) (XT.ii_ge_f (by decide)) ?_
  refine E.iload (q := 28) X67 hx (hb hby d5_26) rfl ?_
  refine E.iload (q := 30) X67 hx (hb hby d5_28) rfl ?_
  refine E.iadd (q := 31) X67 hx (hb hby d5_30) ?_
  rw [show ((0 : Int32) + (4 : Int32)) = (4 : Int32) from by decide]
  refine E.iconst (q := 32) (v := (1 : Int32)) X67 hx (hb hby d5_31) rfl ?_
  refine E.iushr (q := 33) X67 hx (hb hby d5_32) ?_
  rw [show (((4 : Int32).toUInt32 >>> ((1 : Int32) &&& 31).toUInt32).toInt32) = (2 : Int32) from by decide]
  refine E.istore (q := 35) (l' := #[.val (.ref oa), .val (.int qt), .val (.int qp), .val (.long (((qt.toInt64) <<< ((32 : Int32) &&& 0x3f).toInt64) ||| (qp.toInt64))), .second, .val (.int (0 : Int32)), .val (.int (4 : Int32)), .val (.int (2 : Int32))]) X67 hx (hb hby d5_33) rfl ?_
  refine E.aloadN (q := 36) X67 hx (hb hby d5_35) rfl rfl ?_
  refine Ends.getF X67 hx hZ hown (host := "") (Or.inl (hw _ (List.mem_of_getElem? (i := 24) rfl))) Via.refl e67 F_t (hb hby d5_36) ?_
  intro T68 X68 e68
  refine E.iload (q := 41) X68 hx (hb hby d5_39) rfl ?_
  refine Ends.ild X68 hx hZ e68 A_t (i := 2) rfl rfl (hb hby d5_41) ?_
  refine E.i2l (q := 43) X68 hx (hb hby d5_42) ?_
  refine E.bipush (q := 45) (v := (32 : Int32)) X68 hx (hb hby d5_43) rfl ?_
  refine E.lshl (q := 46) X68 hx (hb hby d5_45) ?_
  refine E.aloadN (q := 47) X68 hx (hb hby d5_46) rfl rfl ?_
  refine Ends.getF X68 hx hZ hown (host := "") (Or.inl (hw _ (List.mem_of_getElem? (i := 26) rfl))) Via.refl e68 F_p (hb hby d5_47) ?_
  intro T69 X69 e69
  refine E.iload (q := 52) X69 hx (hb hby d5_50) rfl ?_
  refine Ends.ild X69 hx hZ e69 A_p (i := 2) rfl rfl (hb hby d5_52) ?_
  refine E.i2l (q := 54) X69 hx (hb hby d5_53) ?_
  refine E.lor (q := 55) X69 hx (hb hby d5_54) ?_
  refine E.lloadN (q := 56) X69 hx (hb hby d5_55) rfl ?_
  refine E.lcmp (q := 57) X69 hx (hb hby d5_56) ?_
  by_cases hk2 : own_kk t2 p2 < own_kk qt qp
  · refine E.ifN (q := 60) X69 hx (hb hby d5_57) (XT.i0_ge_f ((lw_lt _ _).mpr hk2)) ?_
    refine E.iload (q := 62) X69 hx (hb hby d5_60) rfl ?_
    refine E.iconst (q := 63) (v := (1 : Int32)) X69 hx (hb hby d5_62) rfl ?_
    refine E.iadd (q := 64) X69 hx (hb hby d5_63) ?_
    rw [show ((2 : Int32) + (1 : Int32)) = (3 : Int32) from by decide]
    refine E.istore (q := 66) (l' := #[.val (.ref oa), .val (.int qt), .val (.int qp), .val (.long (((qt.toInt64) <<< ((32 : Int32) &&& 0x3f).toInt64) ||| (qp.toInt64))), .second, .val (.int (3 : Int32)), .val (.int (4 : Int32)), .val (.int (2 : Int32))]) X69 hx (hb hby d5_64) rfl ?_
    refine E.goto (q := 73) X69 hx (hb hby d5_66) ?_
    refine E.goto (q := 19) X69 hx (hb hby d5_73) ?_
    refine E.iload (q := 21) X69 hx (hb hby d5_19) rfl ?_
    refine E.iload (q := 23) X69 hx (hb hby d5_21) rfl ?_
    refine E.icmpN (q := 26) X69 hx (hb hby d5_23) (XT.ii_ge_f (by decide)) ?_
    refine E.iload (q := 28) X69 hx (hb hby d5_26) rfl ?_
    refine E.iload (q := 30) X69 hx (hb hby d5_28) rfl ?_
    refine E.iadd (q := 31) X69 hx (hb hby d5_30) ?_
    rw [show ((3 : Int32) + (4 : Int32)) = (7 : Int32) from by decide]
    refine E.iconst (q := 32) (v := (1 : Int32)) X69 hx (hb hby d5_31) rfl ?_
    refine E.iushr (q := 33) X69 hx (hb hby d5_32) ?_
    rw [show (((7 : Int32).toUInt32 >>> ((1 : Int32) &&& 31).toUInt32).toInt32) = (3 : Int32) from by decide]
    refine E.istore (q := 35) (l' := #[.val (.ref oa), .val (.int qt), .val (.int qp), .val (.long (((qt.toInt64) <<< ((32 : Int32) &&& 0x3f).toInt64) ||| (qp.toInt64))), .second, .val (.int (3 : Int32)), .val (.int (4 : Int32)), .val (.int (3 : Int32))]) X69 hx (hb hby d5_33) rfl ?_
    refine E.aloadN (q := 36) X69 hx (hb hby d5_35) rfl rfl ?_
    refine Ends.getF X69 hx hZ hown (host := "") (Or.inl (hw _ (List.mem_of_getElem? (i := 24) rfl))) Via.refl e69 F_t (hb hby d5_36) ?_
    intro T70 X70 e70
    refine E.iload (q := 41) X70 hx (hb hby d5_39) rfl ?_
    refine Ends.ild X70 hx hZ e70 A_t (i := 3) rfl rfl (hb hby d5_41) ?_
    refine E.i2l (q := 43) X70 hx (hb hby d5_42) ?_
    refine E.bipush (q := 45) (v := (32 : Int32)) X70 hx (hb hby d5_43) rfl ?_
    refine E.lshl (q := 46) X70 hx (hb hby d5_45) ?_
    refine E.aloadN (q := 47) X70 hx (hb hby d5_46) rfl rfl ?_
    refine Ends.getF X70 hx hZ hown (host := "") (Or.inl (hw _ (List.mem_of_getElem? (i := 26) rfl))) Via.refl e70 F_p (hb hby d5_47) ?_
    intro T71 X71 e71
    refine E.iload (q := 52) X71 hx (hb hby d5_50) rfl ?_
    refine Ends.ild X71 hx hZ e71 A_p (i := 3) rfl rfl (hb hby d5_52) ?_
    refine E.i2l (q := 54) X71 hx (hb hby d5_53) ?_
    refine E.lor (q := 55) X71 hx (hb hby d5_54) ?_
    refine E.lloadN (q := 56) X71 hx (hb hby d5_55) rfl ?_
    refine E.lcmp (q := 57) X71 hx (hb hby d5_56) ?_
    by_cases hk3 : own_kk t3 p3 < own_kk qt qp
    · refine E.ifN (q := 60) X71 hx (hb hby d5_57) (XT.i0_ge_f ((lw_lt _ _).mpr hk3)) ?_
      refine E.iload (q := 62) X71 hx (hb hby d5_60) rfl ?_
      refine E.iconst (q := 63) (v := (1 : Int32)) X71 hx (hb hby d5_62) rfl ?_
      refine E.iadd (q := 64) X71 hx (hb hby d5_63) ?_
      rw [show ((3 : Int32) + (1 : Int32)) = (4 : Int32) from by decide]
      refine E.istore (q := 66) (l' := #[.val (.ref oa), .val (.int qt), .val (.int qp), .val (.long (((qt.toInt64) <<< ((32 : Int32) &&& 0x3f).toInt64) ||| (qp.toInt64))), .second, .val (.int (4 : Int32)), .val (.int (4 : Int32)), .val (.int (3 : Int32))]) X71 hx (hb hby d5_64) rfl ?_
      refine E.goto (q := 73) X71 hx (hb hby d5_66) ?_
      refine E.goto (q := 19) X71 hx (hb hby d5_73) ?_
      refine E.iload (q := 21) X71 hx (hb hby d5_19) rfl ?_
      refine E.iload (q := 23) X71 hx (hb hby d5_21) rfl ?_
      refine E.icmpY (q := 76) X71 hx (hb hby d5_23) (XT.ii_ge_t (by decide)) ?_
      refine E.iload (q := 78) X71 hx (hb hby d5_76) rfl ?_
      refine E.aloadN (q := 79) X71 hx (hb hby d5_78) rfl rfl ?_
      refine Ends.getF X71 hx hZ hown (host := "") (Or.inl (hw _ (List.mem_of_getElem? (i := 24) rfl))) Via.refl e71 F_t (hb hby d5_79) ?_
      intro T72 X72 e72
      refine Ends.alen X72 hx hZ e72 A_t (hb hby d5_82) (n := (4 : Int32)) rfl ?_
      refine E.icmpY (q := 113) X72 hx (hb hby d5_83) (XT.ii_ge_t (by decide)) ?_
      refine E.iconst (q := 114) (v := (-1 : Int32)) X72 hx (hb hby d5_113) rfl ?_
      exact Ends.retI X72 hx hlk hret (hb hby d5_114) (by decide) (by decide) ⟨by rw [if_neg (own_nm1 hk3), if_neg (own_nm1 (Int64.lt_trans S2 hk3)), if_neg (own_nm1 (Int64.lt_trans (Int64.lt_trans S1 S2) hk3)), if_neg (own_nm1 (Int64.lt_trans (Int64.lt_trans S0 (Int64.lt_trans S1 S2)) hk3))], e72, rfl⟩
    · refine E.ifY (q := 69) X71 hx (hb hby d5_57) (XT.i0_ge_t (fun q => hk3 ((lw_lt _ _).mp q))) ?_
      refine E.iload (q := 71) X71 hx (hb hby d5_69) rfl ?_
      refine E.istore (q := 73) (l' := #[.val (.ref oa), .val (.int qt), .val (.int qp), .val (.long (((qt.toInt64) <<< ((32 : Int32) &&& 0x3f).toInt64) ||| (qp.toInt64))), .second, .val (.int (3 : Int32)), .val (.int (3 : Int32)), .val (.int (3 : Int32))]) X71 hx (hb hby d5_71) rfl ?_
      refine E.goto (q := 19) X71 hx (hb hby d5_73) ?_
      refine E.iload (q := 21) X71 hx (hb hby d5_19) rfl ?_
      refine E.iload (q := 23) X71 hx (hb hby d5_21) rfl ?_
      refine E.icmpY (q := 76) X71 hx (hb hby d5_23) (XT.ii_ge_t (by decide)) ?_
      refine E.iload (q := 78) X71 hx (hb hby d5_76) rfl ?_
      refine E.aloadN (q := 79) X71 hx (hb hby d5_78) rfl rfl ?_
      refine Ends.getF X71 hx hZ hown (host := "") (Or.inl (hw _ (List.mem_of_getElem? (i := 24) rfl))) Via.refl e71 F_t (hb hby d5_79) ?_
      intro T73 X73 e73
      refine Ends.alen X73 hx hZ e73 A_t (hb hby d5_82) (n := (4 : Int32)) rfl ?_
      refine E.icmpN (q := 86) X73 hx (hb hby d5_83) (XT.ii_ge_f (by decide)) ?_
      refine E.aloadN (q := 87) X73 hx (hb hby d5_86) rfl rfl ?_
      refine Ends.getF X73 hx hZ hown (host := "") (Or.inl (hw _ (List.mem_of_getElem? (i := 24) rfl))) Via.refl e73 F_t (hb hby d5_87) ?_
      intro T74 X74 e74
      refine E.iload (q := 92) X74 hx (hb hby d5_90) rfl ?_
      refine Ends.ild X74 hx hZ e74 A_t (i := 3) rfl rfl (hb hby d5_92) ?_
      refine E.iloadN (q := 94) X74 hx (hb hby d5_93) rfl ?_
      by_cases ht : t3 = qt
      · refine E.icmpN (q := 97) X74 hx (hb hby d5_94) (XT.ii_ne_f ht) ?_
        refine E.aloadN (q := 98) X74 hx (hb hby d5_97) rfl rfl ?_
        refine Ends.getF X74 hx hZ hown (host := "") (Or.inl (hw _ (List.mem_of_getElem? (i := 26) rfl))) Via.refl e74 F_p (hb hby d5_98) ?_
        intro T75 X75 e75
        refine E.iload (q := 103) X75 hx (hb hby d5_101) rfl ?_
        refine Ends.ild X75 hx hZ e75 A_p (i := 3) rfl rfl (hb hby d5_103) ?_
        refine E.iloadN (q := 105) X75 hx (hb hby d5_104) rfl ?_
        by_cases hp : p3 = qp
        · refine E.icmpN (q := 108) X75 hx (hb hby d5_105) (XT.ii_ne_f hp) ?_
          refine E.iload (q := 110) X75 hx (hb hby d5_108) rfl ?_
          refine E.goto (q := 114) X75 hx (hb hby d5_110) ?_
          exact Ends.retI X75 hx hlk hret (hb hby d5_114) (by decide) (by decide) ⟨by rw [if_pos ⟨ht.symm, hp.symm⟩], e75, rfl⟩
        · refine E.icmpY (q := 113) X75 hx (hb hby d5_105) (XT.ii_ne_t hp) ?_
          refine E.iconst (q := 114) (v := (-1 : Int32)) X75 hx (hb hby d5_113) rfl ?_
          exact Ends.retI X75 hx hlk hret (hb hby d5_114) (by decide) (by decide) ⟨by rw [if_neg (fun q => hp q.2.symm), if_neg (own_nm1 hk2), if_neg (own_nm1 (Int64.lt_trans S1 hk2)), if_neg (own_nm1 (Int64.lt_trans (Int64.lt_trans S0 S1) hk2))], e75, rfl⟩
      · refine E.icmpY (q := 113) X74 hx (hb hby d5_94) (XT.ii_ne_t ht) ?_
        refine E.iconst (q := 114) (v := (-1 : Int32)) X74 hx (hb hby d5_113) rfl ?_
        exact Ends.retI X74 hx hlk hret (hb hby d5_114) (by decide) (by decide) ⟨by rw [if_neg (fun q => ht q.1.symm), if_neg (own_nm1 hk2), if_neg (own_nm1 (Int64.lt_trans S1 hk2)), if_neg (own_nm1 (Int64.lt_trans (Int64.lt_trans S0 S1) hk2))], e74, rfl⟩
  · refine E.ifY (q := 69) X69 hx (hb hby d5_57) (XT.i0_ge_t (fun q => hk2 ((lw_lt _ _).mp q))) ?_
    refine E.iload (q := 71) X69 hx (hb hby d5_69) rfl ?_
    refine E.istore (q := 73) (l' := #[.val (.ref oa), .val (.int qt), .val (.int qp), .val (.long (((qt.toInt64) <<< ((32 : Int32) &&& 0x3f).toInt64) ||| (qp.toInt64))), .second, .val (.int (0 : Int32)), .val (.int (2 : Int32)), .val (.int (2 : Int32))]) X69 hx (hb hby d5_71) rfl ?_
    refine E.goto (q := 19) X69 hx (hb hby d5_73) ?_
    refine E.iload (q := 21) X69 hx (hb hby d5_19) rfl ?_
    refine E.iload (q := 23) X69 hx (hb hby d5_21) rfl ?_
    refine E.icmpN (q := 26) X69 hx (hb hby d5_23) (XT.ii_ge_f (by decide)) ?_
    refine E.iload (q := 28) X69 hx (hb hby d5_26) rfl ?_
    refine E.iload (q := 30) X69 hx (hb hby d5_28) rfl ?_
    refine E.iadd (q := 31) X69 hx (hb hby d5_30) ?_
    rw [show ((0 : Int32) + (2 : Int32)) = (2 : Int32) from by decide]
    refine E.iconst (q := 32) (v := (1 : Int32)) X69 hx (hb hby d5_31) rfl ?_
    refine E.iushr (q := 33) X69 hx (hb hby d5_32) ?_
    rw [show (((2 : Int32).toUInt32 >>> ((1 : Int32) &&& 31).toUInt32).toInt32) = (1 : Int32) from by decide]
    refine E.istore (q := 35) (l' := #[.val (.ref oa), .val (.int qt), .val (.int qp), .val (.long (((qt.toInt64) <<< ((32 : Int32) &&& 0x3f).toInt64) ||| (qp.toInt64))), .second, .val (.int (0 : Int32)), .val (.int (2 : Int32)), .val (.int (1 : Int32))]) X69 hx (hb hby d5_33) rfl ?_
    refine E.aloadN (q := 36) X69 hx (hb hby d5_35) rfl rfl ?_
    refine Ends.getF X69 hx hZ hown (host := "") (Or.inl (hw _ (List.mem_of_getElem? (i := 24) rfl))) Via.refl e69 F_t (hb hby d5_36) ?_
    intro T76 X76 e76
    refine E.iload (q := 41) X76 hx (hb hby d5_39) rfl ?_
    refine Ends.ild X76 hx hZ e76 A_t (i := 1) rfl rfl (hb hby d5_41) ?_
    refine E.i2l (q := 43) X76 hx (hb hby d5_42) ?_
    refine E.bipush (q := 45) (v := (32 : Int32)) X76 hx (hb hby d5_43) rfl ?_
    refine E.lshl (q := 46) X76 hx (hb hby d5_45) ?_
    refine E.aloadN (q := 47) X76 hx (hb hby d5_46) rfl rfl ?_
    refine Ends.getF X76 hx hZ hown (host := "") (Or.inl (hw _ (List.mem_of_getElem? (i := 26) rfl))) Via.refl e76 F_p (hb hby d5_47) ?_
    intro T77 X77 e77
    refine E.iload (q := 52) X77 hx (hb hby d5_50) rfl ?_
    refine Ends.ild X77 hx hZ e77 A_p (i := 1) rfl rfl (hb hby d5_52) ?_
    refine E.i2l (q := 54) X77 hx (hb hby d5_53) ?_
    refine E.lor (q := 55) X77 hx (hb hby d5_54) ?_
    refine E.lloadN (q := 56) X77 hx (hb hby d5_55) rfl ?_
    refine E.lcmp (q := 57) X77 hx (hb hby d5_56) ?_
    by_cases hk1 : own_kk t1 p1 < own_kk qt qp
    · refine E.ifN (q := 60) X77 hx (hb hby d5_57) (XT.i0_ge_f ((lw_lt _ _).mpr hk1)) ?_
      refine E.iload (q := 62) X77 hx (hb hby d5_60) rfl ?_
      refine E.iconst (q := 63) (v := (1 : Int32)) X77 hx (hb hby d5_62) rfl ?_
      refine E.iadd (q := 64) X77 hx (hb hby d5_63) ?_
      rw [show ((1 : Int32) + (1 : Int32)) = (2 : Int32) from by decide]
      refine E.istore (q := 66) (l' := #[.val (.ref oa), .val (.int qt), .val (.int qp), .val (.long (((qt.toInt64) <<< ((32 : Int32) &&& 0x3f).toInt64) ||| (qp.toInt64))), .second, .val (.int (2 : Int32)), .val (.int (2 : Int32)), .val (.int (1 : Int32))]) X77 hx (hb hby d5_64) rfl ?_
      refine E.goto (q := 73) X77 hx (hb hby d5_66) ?_
      refine E.goto (q := 19) X77 hx (hb hby d5_73) ?_
      refine E.iload (q := 21) X77 hx (hb hby d5_19) rfl ?_
      refine E.iload (q := 23) X77 hx (hb hby d5_21) rfl ?_
      refine E.icmpY (q := 76) X77 hx (hb hby d5_23) (XT.ii_ge_t (by decide)) ?_
      refine E.iload (q := 78) X77 hx (hb hby d5_76) rfl ?_
      refine E.aloadN (q := 79) X77 hx (hb hby d5_78) rfl rfl ?_
      refine Ends.getF X77 hx hZ hown (host := "") (Or.inl (hw _ (List.mem_of_getElem? (i := 24) rfl))) Via.refl e77 F_t (hb hby d5_79) ?_
      intro T78 X78 e78
      refine Ends.alen X78 hx hZ e78 A_t (hb hby d5_82) (n := (4 : Int32)) rfl ?_
      refine E.icmpN (q := 86) X78 hx (hb hby d5_83) (XT.ii_ge_f (by decide)) ?_
      refine E.aloadN (q := 87) X78 hx (hb hby d5_86) rfl rfl ?_
      refine Ends.getF X78 hx hZ hown (host := "") (Or.inl (hw _ (List.mem_of_getElem? (i := 24) rfl))) Via.refl e78 F_t (hb hby d5_87) ?_
      intro T79 X79 e79
      refine E.iload (q := 92) X79 hx (hb hby d5_90) rfl ?_
      refine Ends.ild X79 hx hZ e79 A_t (i := 2) rfl rfl (hb hby d5_92) ?_
      refine E.iloadN (q := 94) X79 hx (hb hby d5_93) rfl ?_
      by_cases ht : t2 = qt
      · refine E.icmpN (q := 97) X79 hx (hb hby d5_94) (XT.ii_ne_f ht) ?_
        refine E.aloadN (q := 98) X79 hx (hb hby d5_97) rfl rfl ?_
        refine Ends.getF X79 hx hZ hown (host := "") (Or.inl (hw _ (List.mem_of_getElem? (i := 26) rfl))) Via.refl e79 F_p (hb hby d5_98) ?_
        intro T80 X80 e80
        refine E.iload (q := 103) X80 hx (hb hby d5_101) rfl ?_
        refine Ends.ild X80 hx hZ e80 A_p (i := 2) rfl rfl (hb hby d5_103) ?_
        refine E.iloadN (q := 105) X80 hx (hb hby d5_104) rfl ?_
        by_cases hp : p2 = qp
        · refine E.icmpN (q := 108) X80 hx (hb hby d5_105) (XT.ii_ne_f hp) ?_
          refine E.iload (q := 110) X80 hx (hb hby d5_108) rfl ?_
          refine E.goto (q := 114) X80 hx (hb hby d5_110) ?_
          exact Ends.retI X80 hx hlk hret (hb hby d5_114) (by decide) (by decide) ⟨by rw [if_neg (own_nm2 hk2 S2)]; rw [if_pos ⟨ht.symm, hp.symm⟩], e80, rfl⟩
        · refine E.icmpY (q := 113) X80 hx (hb hby d5_105) (XT.ii_ne_t hp) ?_
          refine E.iconst (q := 114) (v := (-1 : Int32)) X80 hx (hb hby d5_113) rfl ?_
          exact Ends.retI X80 hx hlk hret (hb hby d5_114) (by decide) (by decide) ⟨by rw [if_neg (own_nm2 hk2 S2), if_neg (fun q => hp q.2.symm), if_neg (own_nm1 hk1), if_neg (own_nm1 (Int64.lt_trans S0 hk1))], e80, rfl⟩
      · refine E.icmpY (q := 113) X79 hx (hb hby d5_94) (XT.ii_ne_t ht) ?_
        refine E.iconst (q := 114) (v := (-1 : Int32)) X79 hx (hb hby d5_113) rfl ?_
        exact Ends.retI X79 hx hlk hret (hb hby d5_114) (by decide) (by decide) ⟨by rw [if_neg (own_nm2 hk2 S2), if_neg (fun q => ht q.1.symm), if_neg (own_nm1 hk1), if_neg (own_nm1 (Int64.lt_trans S0 hk1))], e79, rfl⟩
    · refine E.ifY (q := 69) X77 hx (hb hby d5_57) (XT.i0_ge_t (fun q => hk1 ((lw_lt _ _).mp q))) ?_
      refine E.iload (q := 71) X77 hx (hb hby d5_69) rfl ?_
      refine E.istore (q := 73) (l' := #[.val (.ref oa), .val (.int qt), .val (.int qp), .val (.long (((qt.toInt64) <<< ((32 : Int32) &&& 0x3f).toInt64) ||| (qp.toInt64))), .second, .val (.int (0 : Int32)), .val (.int (1 : Int32)), .val (.int (1 : Int32))]) X77 hx (hb hby d5_71) rfl ?_
      refine E.goto (q := 19) X77 hx (hb hby d5_73) ?_
      refine E.iload (q := 21) X77 hx (hb hby d5_19) rfl ?_
      refine E.iload (q := 23) X77 hx (hb hby d5_21) rfl ?_
      refine E.icmpN (q := 26) X77 hx (hb hby d5_23) (XT.ii_ge_f (by decide)) ?_
      refine E.iload (q := 28) X77 hx (hb hby d5_26) rfl ?_
      refine E.iload (q := 30) X77 hx (hb hby d5_28) rfl ?_
      refine E.iadd (q := 31) X77 hx (hb hby d5_30) ?_
      rw [show ((0 : Int32) + (1 : Int32)) = (1 : Int32) from by decide]
      refine E.iconst (q := 32) (v := (1 : Int32)) X77 hx (hb hby d5_31) rfl ?_
      refine E.iushr (q := 33) X77 hx (hb hby d5_32) ?_
      rw [show (((1 : Int32).toUInt32 >>> ((1 : Int32) &&& 31).toUInt32).toInt32) = (0 : Int32) from by decide]
      refine E.istore (q := 35) (l' := #[.val (.ref oa), .val (.int qt), .val (.int qp), .val (.long (((qt.toInt64) <<< ((32 : Int32) &&& 0x3f).toInt64) ||| (qp.toInt64))), .second, .val (.int (0 : Int32)), .val (.int (1 : Int32)), .val (.int (0 : Int32))]) X77 hx (hb hby d5_33) rfl ?_
      refine E.aloadN (q := 36) X77 hx (hb hby d5_35) rfl rfl ?_
      refine Ends.getF X77 hx hZ hown (host := "") (Or.inl (hw _ (List.mem_of_getElem? (i := 24) rfl))) Via.refl e77 F_t (hb hby d5_36) ?_
      intro T81 X81 e81
      refine E.iload (q := 41) X81 hx (hb hby d5_39) rfl ?_
      refine Ends.ild X81 hx hZ e81 A_t (i := 0) rfl rfl (hb hby d5_41) ?_
      refine E.i2l (q := 43) X81 hx (hb hby d5_42) ?_
      refine E.bipush (q := 45) (v := (32 : Int32)) X81 hx (hb hby d5_43) rfl ?_
      refine E.lshl (q := 46) X81 hx (hb hby d5_45) ?_
      refine E.aloadN (q := 47) X81 hx (hb hby d5_46) rfl rfl ?_
      refine Ends.getF X81 hx hZ hown (host := "") (Or.inl (hw _ (List.mem_of_getElem? (i := 26) rfl))) Via.refl e81 F_p (hb hby d5_47) ?_
      intro T82 X82 e82
      refine E.iload (q := 52) X82 hx (hb hby d5_50) rfl ?_
      refine Ends.ild X82 hx hZ e82 A_p (i := 0) rfl rfl (hb hby d5_52) ?_
      refine E.i2l (q := 54) X82 hx (hb hby d5_53) ?_
      refine E.lor (q := 55) X82 hx (hb hby d5_54) ?_
      refine E.lloadN (q := 56) X82 hx (hb hby d5_55) rfl ?_
      refine E.lcmp (q := 57) X82 hx (hb hby d5_56) ?_
      by_cases hk0 : own_kk t0 p0 < own_kk qt qp
      · refine E.ifN (q := 60) X82 hx (hb hby d5_57) (XT.i0_ge_f ((lw_lt _ _).mpr hk0)) ?_
        refine E.iload (q := 62) X82 hx (hb hby d5_60) rfl ?_
        refine E.iconst (q := 63) (v := (1 : Int32)) X82 hx (hb hby d5_62) rfl ?_
        refine E.iadd (q := 64) X82 hx (hb hby d5_63) ?_
        rw [show ((0 : Int32) + (1 : Int32)) = (1 : Int32) from by decide]
        refine E.istore (q := 66) (l' := #[.val (.ref oa), .val (.int qt), .val (.int qp), .val (.long (((qt.toInt64) <<< ((32 : Int32) &&& 0x3f).toInt64) ||| (qp.toInt64))), .second, .val (.int (1 : Int32)), .val (.int (1 : Int32)), .val (.int (0 : Int32))]) X82 hx (hb hby d5_64) rfl ?_
        refine E.goto (q := 73) X82 hx (hb hby d5_66) ?_
        refine E.goto (q := 19) X82 hx (hb hby d5_73) ?_
        refine E.iload (q := 21) X82 hx (hb hby d5_19) rfl ?_
        refine E.iload (q := 23) X82 hx (hb hby d5_21) rfl ?_
        refine E.icmpY (q := 76) X82 hx (hb hby d5_23) (XT.ii_ge_t (by decide)) ?_
        refine E.iload (q := 78) X82 hx (hb hby d5_76) rfl ?_
        refine E.aloadN (q := 79) X82 hx (hb hby d5_78) rfl rfl ?_
        refine Ends.getF X82 hx hZ hown (host := "") (Or.inl (hw _ (List.mem_of_getElem? (i := 24) rfl))) Via.refl e82 F_t (hb hby d5_79) ?_
        intro T83 X83 e83
        refine Ends.alen X83 hx hZ e83 A_t (hb hby d5_82) (n := (4 : Int32)) rfl ?_
        refine E.icmpN (q := 86) X83 hx (hb hby d5_83) (XT.ii_ge_f (by decide)) ?_
        refine E.aloadN (q := 87) X83 hx (hb hby d5_86) rfl rfl ?_
        refine Ends.getF X83 hx hZ hown (host := "") (Or.inl (hw _ (List.mem_of_getElem? (i := 24) rfl))) Via.refl e83 F_t (hb hby d5_87) ?_
        intro T84 X84 e84
        refine E.iload (q := 92) X84 hx (hb hby d5_90) rfl ?_
        refine Ends.ild X84 hx hZ e84 A_t (i := 1) rfl rfl (hb hby d5_92) ?_
        refine E.iloadN (q := 94) X84 hx (hb hby d5_93) rfl ?_
        by_cases ht : t1 = qt
        · refine E.icmpN (q := 97) X84 hx (hb hby d5_94) (XT.ii_ne_f ht) ?_
          refine E.aloadN (q := 98) X84 hx (hb hby d5_97) rfl rfl ?_
          refine Ends.getF X84 hx hZ hown (host := "") (Or.inl (hw _ (List.mem_of_getElem? (i := 26) rfl))) Via.refl e84 F_p (hb hby d5_98) ?_
          intro T85 X85 e85
          refine E.iload (q := 103) X85 hx (hb hby d5_101) rfl ?_
          refine Ends.ild X85 hx hZ e85 A_p (i := 1) rfl rfl (hb hby d5_103) ?_
          refine E.iloadN (q := 105) X85 hx (hb hby d5_104) rfl ?_
          by_cases hp : p1 = qp
          · refine E.icmpN (q := 108) X85 hx (hb hby d5_105) (XT.ii_ne_f hp) ?_
            refine E.iload (q := 110) X85 hx (hb hby d5_108) rfl ?_
            refine E.goto (q := 114) X85 hx (hb hby d5_110) ?_
            exact Ends.retI X85 hx hlk hret (hb hby d5_114) (by decide) (by decide) ⟨by rw [if_neg (own_nm2 hk1 (Int64.lt_trans S1 S2)), if_neg (own_nm2 hk1 S1)]; rw [if_pos ⟨ht.symm, hp.symm⟩], e85, rfl⟩
          · refine E.icmpY (q := 113) X85 hx (hb hby d5_105) (XT.ii_ne_t hp) ?_
            refine E.iconst (q := 114) (v := (-1 : Int32)) X85 hx (hb hby d5_113) rfl ?_
            exact Ends.retI X85 hx hlk hret (hb hby d5_114) (by decide) (by decide) ⟨by rw [if_neg (own_nm2 hk1 (Int64.lt_trans S1 S2)), if_neg (own_nm2 hk1 S1), if_neg (fun q => hp q.2.symm), if_neg (own_nm1 hk0)], e85, rfl⟩
        · refine E.icmpY (q := 113) X84 hx (hb hby d5_94) (XT.ii_ne_t ht) ?_
          refine E.iconst (q := 114) (v := (-1 : Int32)) X84 hx (hb hby d5_113) rfl ?_
          exact Ends.retI X84 hx hlk hret (hb hby d5_114) (by decide) (by decide) ⟨by rw [if_neg (own_nm2 hk1 (Int64.lt_trans S1 S2)), if_neg (own_nm2 hk1 S1), if_neg (fun q => ht q.1.symm), if_neg (own_nm1 hk0)], e84, rfl⟩
      · refine E.ifY (q := 69) X82 hx (hb hby d5_57) (XT.i0_ge_t (fun q => hk0 ((lw_lt _ _).mp q))) ?_
        refine E.iload (q := 71) X82 hx (hb hby d5_69) rfl ?_
        refine E.istore (q := 73) (l' := #[.val (.ref oa), .val (.int qt), .val (.int qp), .val (.long (((qt.toInt64) <<< ((32 : Int32) &&& 0x3f).toInt64) ||| (qp.toInt64))), .second, .val (.int (0 : Int32)), .val (.int (0 : Int32)), .val (.int (0 : Int32))]) X82 hx (hb hby d5_71) rfl ?_
        refine E.goto (q := 19) X82 hx (hb hby d5_73) ?_
        refine E.iload (q := 21) X82 hx (hb hby d5_19) rfl ?_
        refine E.iload (q := 23) X82 hx (hb hby d5_21) rfl ?_
        refine E.icmpY (q := 76) X82 hx (hb hby d5_23) (XT.ii_ge_t (by decide)) ?_
        refine E.iload (q := 78) X82 hx (hb hby d5_76) rfl ?_
        refine E.aloadN (q := 79) X82 hx (hb hby d5_78) rfl rfl ?_
        refine Ends.getF X82 hx hZ hown (host := "") (Or.inl (hw _ (List.mem_of_getElem? (i := 24) rfl))) Via.refl e82 F_t (hb hby d5_79) ?_
        intro T86 X86 e86
        refine Ends.alen X86 hx hZ e86 A_t (hb hby d5_82) (n := (4 : Int32)) rfl ?_
        refine E.icmpN (q := 86) X86 hx (hb hby d5_83) (XT.ii_ge_f (by decide)) ?_
        refine E.aloadN (q := 87) X86 hx (hb hby d5_86) rfl rfl ?_
        refine Ends.getF X86 hx hZ hown (host := "") (Or.inl (hw _ (List.mem_of_getElem? (i := 24) rfl))) Via.refl e86 F_t (hb hby d5_87) ?_
        intro T87 X87 e87
        refine E.iload (q := 92) X87 hx (hb hby d5_90) rfl ?_
        refine Ends.ild X87 hx hZ e87 A_t (i := 0) rfl rfl (hb hby d5_92) ?_
        refine E.iloadN (q := 94) X87 hx (hb hby d5_93) rfl ?_
        by_cases ht : t0 = qt
        · refine E.icmpN (q := 97) X87 hx (hb hby d5_94) (XT.ii_ne_f ht) ?_
          refine E.aloadN (q := 98) X87 hx (hb hby d5_97) rfl rfl ?_
          refine Ends.getF X87 hx hZ hown (host := "") (Or.inl (hw _ (List.mem_of_getElem? (i := 26) rfl))) Via.refl e87 F_p (hb hby d5_98) ?_
          intro T88 X88 e88
          refine E.iload (q := 103) X88 hx (hb hby d5_101) rfl ?_
          refine Ends.ild X88 hx hZ e88 A_p (i := 0) rfl rfl (hb hby d5_103) ?_
          refine E.iloadN (q := 105) X88 hx (hb hby d5_104) rfl ?_
          by_cases hp : p0 = qp
          · refine E.icmpN (q := 108) X88 hx (hb hby d5_105) (XT.ii_ne_f hp) ?_
            refine E.iload (q := 110) X88 hx (hb hby d5_108) rfl ?_
            refine E.goto (q := 114) X88 hx (hb hby d5_110) ?_
            exact Ends.retI X88 hx hlk hret (hb hby d5_114) (by decide) (by decide) ⟨by rw [if_neg (own_nm2 hk0 (Int64.lt_trans S0 (Int64.lt_trans S1 S2))), if_neg (own_nm2 hk0 (Int64.lt_trans S0 S1)), if_neg (own_nm2 hk0 S0)]; rw [if_pos ⟨ht.symm, hp.symm⟩], e88, rfl⟩
          · refine E.icmpY (q := 113) X88 hx (hb hby d5_105) (XT.ii_ne_t hp) ?_
            refine E.iconst (q := 114) (v := (-1 : Int32)) X88 hx (hb hby d5_113) rfl ?_
            exact Ends.retI X88 hx hlk hret (hb hby d5_114) (by decide) (by decide) ⟨by rw [if_neg (own_nm2 hk0 (Int64.lt_trans S0 (Int64.lt_trans S1 S2))), if_neg (own_nm2 hk0 (Int64.lt_trans S0 S1)), if_neg (own_nm2 hk0 S0), if_neg (fun q => hp q.2.symm)], e88, rfl⟩
        · refine E.icmpY (q := 113) X87 hx (hb hby d5_94) (XT.ii_ne_t ht) ?_
          refine E.iconst (q := 114) (v := (-1 : Int32)) X87 hx (hb hby d5_113) rfl ?_
          exact Ends.retI X87 hx hlk hret (hb hby d5_114) (by decide) (by decide) ⟨by rw [if_neg (own_nm2 hk0 (Int64.lt_trans S0 (Int64.lt_trans S1 S2))), if_neg (own_nm2 hk0 (Int64.lt_trans S0 S1)), if_neg (own_nm2 hk0 S0), if_neg (fun q => ht q.1.symm)], e87, rfl⟩
theorem ef_0 (m : MethodId) (x0 : Int32) (x1 : Int32) (x2 : Int64) (x3 : Int32) (x4 : Int32) (x5 : Int32) : entryFrame m #[(.int x0), (.int x1), (.long x2), (.int x3), (.int x4), (.int x5)] maxLocals = mkF m 0 #[.val (.int x0), .val (.int x1), .val (.long x2), .second, .val (.int x3), .val (.int x4), .val (.int x5), .unset, .unset, .unset, .unset, .unset, .unset, .unset, .unset, .unset, .unset, .unset, .unset, .unset, .unset, .unset, .unset, .unset, .unset, .unset, .unset, .unset, .unset, .unset, .unset, .unset, .unset, .unset, .unset] [] := by first | (simp [entryFrame, mkF, argsToLocals, Value.category, maxLocals]; done) | rfl
set_option maxRecDepth 65536 in
set_option maxHeartbeats 40000000 in
theorem rm0 (l : Launch) (Z : State) (a0 : Array Value) (hw : ∀ d ∈ tables_1, d.before a0 Z = true) (vx : Int32) (vy : Int32) (vh : Int64) (vs : Int32) (vt : Int32) (vp : Int32) (h0 : Heap) :
    Con l x code maxLocals ret tables_1 room_1 #[(.int vx), (.int vy), (.long vh), (.int vs), (.int vt), (.int vp)] Z h0 (fun v h L => v = some (.int 1) ∧ Fr h0.size L) := by
  refine Con.of (plainFor_of_name pn_0) ?_
  intro p e s m below meth c s₁ hx hZ hby hml hown hnm hret hlk X0 e0
  refine Ends.cast (ef_0 m vx vy vh vs vt vp) ?_
  show Ends p e below s _ _ _ s₁ (mkF m 0 #[.val (.int vx), .val (.int vy), .val (.long vh), .second, .val (.int vs), .val (.int vt), .val (.int vp), .unset, .unset, .unset, .unset, .unset, .unset, .unset, .unset, .unset, .unset, .unset, .unset, .unset, .unset, .unset, .unset, .unset, .unset, .unset, .unset, .unset, .unset, .unset, .unset, .unset, .unset, .unset, .unset] [])
  have O0 := Ok.refl h0 []
  refine E.iloadN (q := 1) X0 hx (hb hby at_0) rfl ?_
  refine E.ldc (q := 3) X0 hx hZ hown (hw _ (List.mem_of_getElem? (i := 0) rfl)) (hb hby at_1) ?_
  refine E.iand (q := 4) X0 hx (hb hby at_3) ?_
  refine E.ldc (q := 6) X0 hx hZ hown (hw _ (List.mem_of_getElem? (i := 1) rfl)) (hb hby at_4) ?_
  refine Ends.callS X0 hx hZ hown (hw _ (List.mem_of_getElem? (i := 2) rfl)) (hw _ (List.mem_of_getElem? (i := 3) rfl)) (hw _ (List.mem_of_getElem? (i := 4) rfl)) (hw _ (List.mem_of_getElem? (i := 5) rfl)) (by decide) (argsL := [(.int (vx &&& (2147483647 : Int32))), (.int (2147483638 : Int32))]) (rest := []) e0 (rm1 l Z a0 hw (vx &&& (2147483647 : Int32)) (2147483638 : Int32) h0) (W := 0) (by decide) (by decide) (by rw [hml]; rfl) (lenOf pd_1 rfl) (Nat.le_of_eq rfl) (hb hby at_6) (by decide) (by decide) rfl ?_
  rintro T89 v89 L89 X89 ⟨rfl, e89, rfl⟩
  rw [List.append_nil] at X89
  show Ends p e below s _ _ _ T89 (mkF m 9 #[.val (.int vx), .val (.int vy), .val (.long vh), .second, .val (.int vs), .val (.int vt), .val (.int vp), .unset, .unset, .unset, .unset, .unset, .unset, .unset, .unset, .unset, .unset, .unset, .unset, .unset, .unset, .unset, .unset, .unset, .unset, .unset, .unset, .unset, .unset, .unset, .unset, .unset, .unset, .unset, .unset] [(.int (own_min (vx &&& (2147483647 : Int32)) (2147483638 : Int32)))])
  obtain ⟨tB, htB⟩ : ∃ z, z = (own_min (vx &&& (2147483647 : Int32)) (2147483638 : Int32)) := ⟨_, rfl⟩
  rw [← htB]
  have btB := own_minT htB
  refine E.istore (q := 11) (l' := #[.val (.int vx), .val (.int vy), .val (.long vh), .second, .val (.int vs), .val (.int vt), .val (.int vp), .val (.int tB), .unset, .unset, .unset, .unset, .unset, .unset, .unset, .unset, .unset, .unset, .unset, .unset, .unset, .unset, .unset, .unset, .unset, .unset, .unset, .unset, .unset, .unset, .unset, .unset, .unset, .unset, .unset]) X89 hx (hb hby at_9) rfl ?_
  refine E.iloadN (q := 12) X89 hx (hb hby at_11) rfl ?_
  refine E.ldc (q := 14) X89 hx hZ hown (hw _ (List.mem_of_getElem? (i := 0) rfl)) (hb hby at_12) ?_
  refine E.iand (q := 15) X89 hx (hb hby at_14) ?_
  refine E.ldc (q := 17) X89 hx hZ hown (hw _ (List.mem_of_getElem? (i := 6) rfl)) (hb hby at_15) ?_
  refine Ends.callS X89 hx hZ hown (hw _ (List.mem_of_getElem? (i := 2) rfl)) (hw _ (List.mem_of_getElem? (i := 3) rfl)) (hw _ (List.mem_of_getElem? (i := 4) rfl)) (hw _ (List.mem_of_getElem? (i := 5) rfl)) (by decide) (argsL := [(.int (vy &&& (2147483647 : Int32))), (.int (2147483632 : Int32))]) (rest := []) e89 (rm1 l Z a0 hw (vy &&& (2147483647 : Int32)) (2147483632 : Int32) h0) (W := 0) (by decide) (by decide) (by rw [hml]; rfl) (lenOf pd_1 rfl) (Nat.le_of_eq rfl) (hb hby at_17) (by decide) (by decide) rfl ?_
  rintro T90 v90 L90 X90 ⟨rfl, e90, rfl⟩
  rw [List.append_nil] at X90
  show Ends p e below s _ _ _ T90 (mkF m 20 #[.val (.int vx), .val (.int vy), .val (.long vh), .second, .val (.int vs), .val (.int vt), .val (.int vp), .val (.int tB), .unset, .unset, .unset, .unset, .unset, .unset, .unset, .unset, .unset, .unset, .unset, .unset, .unset, .unset, .unset, .unset, .unset, .unset, .unset, .unset, .unset, .unset, .unset, .unset, .unset, .unset, .unset] [(.int (own_min (vy &&& (2147483647 : Int32)) (2147483632 : Int32)))])
  obtain ⟨pB, hpB⟩ : ∃ z, z = (own_min (vy &&& (2147483647 : Int32)) (2147483632 : Int32)) := ⟨_, rfl⟩
  rw [← hpB]
  have bpB := own_minP hpB
  refine E.istore (q := 22) (l' := #[.val (.int vx), .val (.int vy), .val (.long vh), .second, .val (.int vs), .val (.int vt), .val (.int vp), .val (.int tB), .val (.int pB), .unset, .unset, .unset, .unset, .unset, .unset, .unset, .unset, .unset, .unset, .unset, .unset, .unset, .unset, .unset, .unset, .unset, .unset, .unset, .unset, .unset, .unset, .unset, .unset, .unset, .unset]) X90 hx (hb hby at_20) rfl ?_
  refine E.lloadN (q := 23) X90 hx (hb hby at_22) rfl ?_
  refine E.iconst (q := 24) (v := (2 : Int32)) X90 hx (hb hby at_23) rfl ?_
  refine E.lushr (q := 25) X90 hx (hb hby at_24) ?_
  refine E.ldc2 (q := 28) X90 hx hZ hown (hw _ (List.mem_of_getElem? (i := 7) rfl)) (hb hby at_25) ?_
  refine E.land (q := 29) X90 hx (hb hby at_28) ?_
  refine E.l2i (q := 30) X90 hx (hb hby at_29) ?_
  obtain ⟨dp0, hdp0⟩ : ∃ z, z = ((((vh.toUInt64 >>> ((2 : Int32) &&& 0x3f).toInt64.toUInt64).toInt64) &&& (3 : Int64)).toInt32) := ⟨_, rfl⟩
  rw [← hdp0]
  have bdp0 := own_and3 hdp0
  refine E.istore (q := 32) (l' := #[.val (.int vx), .val (.int vy), .val (.long vh), .second, .val (.int vs), .val (.int vt), .val (.int vp), .val (.int tB), .val (.int pB), .val (.int dp0), .unset, .unset, .unset, .unset, .unset, .unset, .unset, .unset, .unset, .unset, .unset, .unset, .unset, .unset, .unset, .unset, .unset, .unset, .unset, .unset, .unset, .unset, .unset, .unset, .unset]) X90 hx (hb hby at_30) rfl ?_
  refine E.lloadN (q := 33) X90 hx (hb hby at_32) rfl ?_
  refine E.iconst (q := 34) (v := (4 : Int32)) X90 hx (hb hby at_33) rfl ?_
  refine E.lushr (q := 35) X90 hx (hb hby at_34) ?_
  refine E.ldc2 (q := 38) X90 hx hZ hown (hw _ (List.mem_of_getElem? (i := 7) rfl)) (hb hby at_35) ?_
  refine E.land (q := 39) X90 hx (hb hby at_38) ?_
  refine E.l2i (q := 40) X90 hx (hb hby at_39) ?_
  obtain ⟨dt1, hdt1⟩ : ∃ z, z = ((((vh.toUInt64 >>> ((4 : Int32) &&& 0x3f).toInt64.toUInt64).toInt64) &&& (3 : Int64)).toInt32) := ⟨_, rfl⟩
  rw [← hdt1]
  have bdt1 := own_and3 hdt1
  refine E.istore (q := 42) (l' := #[.val (.int vx), .val (.int vy), .val (.long vh), .second, .val (.int vs), .val (.int vt), .val (.int vp), .val (.int tB), .val (.int pB), .val (.int dp0), .val (.int dt1), .unset, .unset, .unset, .unset, .unset, .unset, .unset, .unset, .unset, .unset, .unset, .unset, .unset, .unset, .unset, .unset, .unset, .unset, .unset, .unset, .unset, .unset, .unset, .unset]) X90 hx (hb hby at_40) rfl ?_
  refine E.lloadN (q := 43) X90 hx (hb hby at_42) rfl ?_
  refine E.bipush (q := 45) (v := (6 : Int32)) X90 hx (hb hby at_43) rfl ?_
  refine E.lushr (q := 46) X90 hx (hb hby at_45) ?_
  refine E.ldc2 (q := 49) X90 hx hZ hown (hw _ (List.mem_of_getElem? (i := 7) rfl)) (hb hby at_46) ?_
  refine E.land (q := 50) X90 hx (hb hby at_49) ?_
  refine E.l2i (q := 51) X90 hx (hb hby at_50) ?_
  obtain ⟨dp1, hdp1⟩ : ∃ z, z = ((((vh.toUInt64 >>> ((6 : Int32) &&& 0x3f).toInt64.toUInt64).toInt64) &&& (3 : Int64)).toInt32) := ⟨_, rfl⟩
  rw [← hdp1]
  have bdp1 := own_and3 hdp1
  refine E.istore (q := 53) (l' := #[.val (.int vx), .val (.int vy), .val (.long vh), .second, .val (.int vs), .val (.int vt), .val (.int vp), .val (.int tB), .val (.int pB), .val (.int dp0), .val (.int dt1), .val (.int dp1), .unset, .unset, .unset, .unset, .unset, .unset, .unset, .unset, .unset, .unset, .unset, .unset, .unset, .unset, .unset, .unset, .unset, .unset, .unset, .unset, .unset, .unset, .unset]) X90 hx (hb hby at_51) rfl ?_
  refine E.lloadN (q := 54) X90 hx (hb hby at_53) rfl ?_
  refine E.bipush (q := 56) (v := (8 : Int32)) X90 hx (hb hby at_54) rfl ?_
  refine E.lushr (q := 57) X90 hx (hb hby at_56) ?_
  refine E.ldc2 (q := 60) X90 hx hZ hown (hw _ (List.mem_of_getElem? (i := 7) rfl)) (hb hby at_57) ?_
  refine E.land (q := 61) X90 hx (hb hby at_60) ?_
  refine E.l2i (q := 62) X90 hx (hb hby at_61) ?_
  obtain ⟨dt2, hdt2⟩ : ∃ z, z = ((((vh.toUInt64 >>> ((8 : Int32) &&& 0x3f).toInt64.toUInt64).toInt64) &&& (3 : Int64)).toInt32) := ⟨_, rfl⟩
  rw [← hdt2]
  have bdt2 := own_and3 hdt2
  refine E.istore (q := 64) (l' := #[.val (.int vx), .val (.int vy), .val (.long vh), .second, .val (.int vs), .val (.int vt), .val (.int vp), .val (.int tB), .val (.int pB), .val (.int dp0), .val (.int dt1), .val (.int dp1), .val (.int dt2), .unset, .unset, .unset, .unset, .unset, .unset, .unset, .unset, .unset, .unset, .unset, .unset, .unset, .unset, .unset, .unset, .unset, .unset, .unset, .unset, .unset, .unset]) X90 hx (hb hby at_62) rfl ?_
  refine E.lloadN (q := 65) X90 hx (hb hby at_64) rfl ?_
  refine E.bipush (q := 67) (v := (10 : Int32)) X90 hx (hb hby at_65) rfl ?_
  refine E.lushr (q := 68) X90 hx (hb hby at_67) ?_
  refine E.ldc2 (q := 71) X90 hx hZ hown (hw _ (List.mem_of_getElem? (i := 7) rfl)) (hb hby at_68) ?_
  refine E.land (q := 72) X90 hx (hb hby at_71) ?_
  refine E.l2i (q := 73) X90 hx (hb hby at_72) ?_
  obtain ⟨dp2, hdp2⟩ : ∃ z, z = ((((vh.toUInt64 >>> ((10 : Int32) &&& 0x3f).toInt64.toUInt64).toInt64) &&& (3 : Int64)).toInt32) := ⟨_, rfl⟩
  rw [← hdp2]
  have bdp2 := own_and3 hdp2
  refine E.istore (q := 75) (l' := #[.val (.int vx), .val (.int vy), .val (.long vh), .second, .val (.int vs), .val (.int vt), .val (.int vp), .val (.int tB), .val (.int pB), .val (.int dp0), .val (.int dt1), .val (.int dp1), .val (.int dt2), .val (.int dp2), .unset, .unset, .unset, .unset, .unset, .unset, .unset, .unset, .unset, .unset, .unset, .unset, .unset, .unset, .unset, .unset, .unset, .unset, .unset, .unset, .unset]) X90 hx (hb hby at_73) rfl ?_
  refine E.lloadN (q := 76) X90 hx (hb hby at_75) rfl ?_
  refine E.bipush (q := 78) (v := (12 : Int32)) X90 hx (hb hby at_76) rfl ?_
  refine E.lushr (q := 79) X90 hx (hb hby at_78) ?_
  refine E.ldc2 (q := 82) X90 hx hZ hown (hw _ (List.mem_of_getElem? (i := 7) rfl)) (hb hby at_79) ?_
  refine E.land (q := 83) X90 hx (hb hby at_82) ?_
  refine E.l2i (q := 84) X90 hx (hb hby at_83) ?_
  obtain ⟨dt3, hdt3⟩ : ∃ z, z = ((((vh.toUInt64 >>> ((12 : Int32) &&& 0x3f).toInt64.toUInt64).toInt64) &&& (3 : Int64)).toInt32) := ⟨_, rfl⟩
  rw [← hdt3]
  have bdt3 := own_and3 hdt3
  refine E.istore (q := 86) (l' := #[.val (.int vx), .val (.int vy), .val (.long vh), .second, .val (.int vs), .val (.int vt), .val (.int vp), .val (.int tB), .val (.int pB), .val (.int dp0), .val (.int dt1), .val (.int dp1), .val (.int dt2), .val (.int dp2), .val (.int dt3), .unset, .unset, .unset, .unset, .unset, .unset, .unset, .unset, .unset, .unset, .unset, .unset, .unset, .unset, .unset, .unset, .unset, .unset, .unset, .unset]) X90 hx (hb hby at_84) rfl ?_
  refine E.lloadN (q := 87) X90 hx (hb hby at_86) rfl ?_
  refine E.bipush (q := 89) (v := (14 : Int32)) X90 hx (hb hby at_87) rfl ?_
  refine E.lushr (q := 90) X90 hx (hb hby at_89) ?_
  refine E.ldc2 (q := 93) X90 hx hZ hown (hw _ (List.mem_of_getElem? (i := 7) rfl)) (hb hby at_90) ?_
  refine E.land (q := 94) X90 hx (hb hby at_93) ?_
  refine E.l2i (q := 95) X90 hx (hb hby at_94) ?_
  obtain ⟨dp3, hdp3⟩ : ∃ z, z = ((((vh.toUInt64 >>> ((14 : Int32) &&& 0x3f).toInt64.toUInt64).toInt64) &&& (3 : Int64)).toInt32) := ⟨_, rfl⟩
  rw [← hdp3]
  have bdp3 := own_and3 hdp3
  refine E.istore (q := 97) (l' := #[.val (.int vx), .val (.int vy), .val (.long vh), .second, .val (.int vs), .val (.int vt), .val (.int vp), .val (.int tB), .val (.int pB), .val (.int dp0), .val (.int dt1), .val (.int dp1), .val (.int dt2), .val (.int dp2), .val (.int dt3), .val (.int dp3), .unset, .unset, .unset, .unset, .unset, .unset, .unset, .unset, .unset, .unset, .unset, .unset, .unset, .unset, .unset, .unset, .unset, .unset, .unset]) X90 hx (hb hby at_95) rfl ?_
  refine E.iload (q := 99) X90 hx (hb hby at_97) rfl ?_
  refine E.istore (q := 101) (l' := #[.val (.int vx), .val (.int vy), .val (.long vh), .second, .val (.int vs), .val (.int vt), .val (.int vp), .val (.int tB), .val (.int pB), .val (.int dp0), .val (.int dt1), .val (.int dp1), .val (.int dt2), .val (.int dp2), .val (.int dt3), .val (.int dp3), .val (.int tB), .unset, .unset, .unset, .unset, .unset, .unset, .unset, .unset, .unset, .unset, .unset, .unset, .unset, .unset, .unset, .unset, .unset, .unset]) X90 hx (hb hby at_99) rfl ?_
  refine E.iload (q := 103) X90 hx (hb hby at_101) rfl ?_
  refine E.iload (q := 105) X90 hx (hb hby at_103) rfl ?_
  refine E.iadd (q := 106) X90 hx (hb hby at_105) ?_
  obtain ⟨p0, hp0⟩ : ∃ z, z = (pB + dp0) := ⟨_, rfl⟩
  rw [← hp0]
  refine E.istore (q := 108) (l' := #[.val (.int vx), .val (.int vy), .val (.long vh), .second, .val (.int vs), .val (.int vt), .val (.int vp), .val (.int tB), .val (.int pB), .val (.int dp0), .val (.int dt1), .val (.int dp1), .val (.int dt2), .val (.int dp2), .val (.int dt3), .val (.int dp3), .val (.int tB), .val (.int p0), .unset, .unset, .unset, .unset, .unset, .unset, .unset, .unset, .unset, .unset, .unset, .unset, .unset, .unset, .unset, .unset, .unset]) X90 hx (hb hby at_106) rfl ?_
  refine E.iload (q := 110) X90 hx (hb hby at_108) rfl ?_
  refine E.iload (q := 112) X90 hx (hb hby at_110) rfl ?_
  refine E.iadd (q := 113) X90 hx (hb hby at_112) ?_
  obtain ⟨t1, ht1⟩ : ∃ z, z = (tB + dt1) := ⟨_, rfl⟩
  rw [← ht1]
  refine E.istore (q := 115) (l' := #[.val (.int vx), .val (.int vy), .val (.long vh), .second, .val (.int vs), .val (.int vt), .val (.int vp), .val (.int tB), .val (.int pB), .val (.int dp0), .val (.int dt1), .val (.int dp1), .val (.int dt2), .val (.int dp2), .val (.int dt3), .val (.int dp3), .val (.int tB), .val (.int p0), .val (.int t1), .unset, .unset, .unset, .unset, .unset, .unset, .unset, .unset, .unset, .unset, .unset, .unset, .unset, .unset, .unset, .unset]) X90 hx (hb hby at_113) rfl ?_
  refine E.iload (q := 117) X90 hx (hb hby at_115) rfl ?_
  have J1 : ∀ p1, own_stp dt1 p0 pB dp1 p1 → Ends p e below s (fun v h L => v = some (.int 1) ∧ Fr h0.size L) room_1.cells room_1.slots T90 (mkF m 135 #[.val (.int vx), .val (.int vy), .val (.long vh), .second, .val (.int vs), .val (.int vt), .val (.int vp), .val (.int tB), .val (.int pB), .val (.int dp0), .val (.int dt1), .val (.int dp1), .val (.int dt2), .val (.int dp2), .val (.int dt3), .val (.int dp3), .val (.int tB), .val (.int p0), .val (.int t1), .unset, .unset, .unset, .unset, .unset, .unset, .unset, .unset, .unset, .unset, .unset, .unset, .unset, .unset, .unset, .unset] [(.int p1)]) := by
    intro p1 hst1
    show Ends p e below s _ _ _ T90 (mkF m 135 #[.val (.int vx), .val (.int vy), .val (.long vh), .second, .val (.int vs), .val (.int vt), .val (.int vp), .val (.int tB), .val (.int pB), .val (.int dp0), .val (.int dt1), .val (.int dp1), .val (.int dt2), .val (.int dp2), .val (.int dt3), .val (.int dp3), .val (.int tB), .val (.int p0), .val (.int t1), .unset, .unset, .unset, .unset, .unset, .unset, .unset, .unset, .unset, .unset, .unset, .unset, .unset, .unset, .unset, .unset] [(.int p1)])
    refine E.istore (q := 137) (l' := #[.val (.int vx), .val (.int vy), .val (.long vh), .second, .val (.int vs), .val (.int vt), .val (.int vp), .val (.int tB), .val (.int pB), .val (.int dp0), .val (.int dt1), .val (.int dp1), .val (.int dt2), .val (.int dp2), .val (.int dt3), .val (.int dp3), .val (.int tB), .val (.int p0), .val (.int t1), .val (.int p1), .unset, .unset, .unset, .unset, .unset, .unset, .unset, .unset, .unset, .unset, .unset, .unset, .unset, .unset, .unset]) X90 hx (hb hby at_135) rfl ?_
    refine E.iload (q := 139) X90 hx (hb hby at_137) rfl ?_
    refine E.iload (q := 141) X90 hx (hb hby at_139) rfl ?_
    refine E.iadd (q := 142) X90 hx (hb hby at_141) ?_
    obtain ⟨t2, ht2⟩ : ∃ z, z = (t1 + dt2) := ⟨_, rfl⟩
    rw [← ht2]
    refine E.istore (q := 144) (l' := #[.val (.int vx), .val (.int vy), .val (.long vh), .second, .val (.int vs), .val (.int vt), .val (.int vp), .val (.int tB), .val (.int pB), .val (.int dp0), .val (.int dt1), .val (.int dp1), .val (.int dt2), .val (.int dp2), .val (.int dt3), .val (.int dp3), .val (.int tB), .val (.int p0), .val (.int t1), .val (.int p1), .val (.int t2), .unset, .unset, .unset, .unset, .unset, .unset, .unset, .unset, .unset, .unset, .unset, .unset, .unset, .unset]) X90 hx (hb hby at_142) rfl ?_
    refine E.iload (q := 146) X90 hx (hb hby at_144) rfl ?_
    have J2 : ∀ p2, own_stp dt2 p1 pB dp2 p2 → Ends p e below s (fun v h L => v = some (.int 1) ∧ Fr h0.size L) room_1.cells room_1.slots T90 (mkF m 164 #[.val (.int vx), .val (.int vy), .val (.long vh), .second, .val (.int vs), .val (.int vt), .val (.int vp), .val (.int tB), .val (.int pB), .val (.int dp0), .val (.int dt1), .val (.int dp1), .val (.int dt2), .val (.int dp2), .val (.int dt3), .val (.int dp3), .val (.int tB), .val (.int p0), .val (.int t1), .val (.int p1), .val (.int t2), .unset, .unset, .unset, .unset, .unset, .unset, .unset, .unset, .unset, .unset, .unset, .unset, .unset, .unset] [(.int p2)]) := by
      intro p2 hst2
      show Ends p e below s _ _ _ T90 (mkF m 164 #[.val (.int vx), .val (.int vy), .val (.long vh), .second, .val (.int vs), .val (.int vt), .val (.int vp), .val (.int tB), .val (.int pB), .val (.int dp0), .val (.int dt1), .val (.int dp1), .val (.int dt2), .val (.int dp2), .val (.int dt3), .val (.int dp3), .val (.int tB), .val (.int p0), .val (.int t1), .val (.int p1), .val (.int t2), .unset, .unset, .unset, .unset, .unset, .unset, .unset, .unset, .unset, .unset, .unset, .unset, .unset, .unset] [(.int p2)])
      refine E.istore (q := 166) (l' := #[.val (.int vx), .val (.int vy), .val (.long vh), .second, .val (.int vs), .val (.int vt), .val (.int vp), .val (.int tB), .val (.int pB), .val (.int dp0), .val (.int dt1), .val (.int dp1), .val (.int dt2), .val (.int dp2), .val (.int dt3), .val (.int dp3), .val (.int tB), .val (.int p0), .val (.int t1), .val (.int p1), .val (.int t2), .val (.int p2), .unset, .unset, .unset, .unset, .unset, .unset, .unset, .unset, .unset, .unset, .unset, .unset, .unset]) X90 hx (hb hby at_164) rfl ?_
      refine E.iload (q := 168) X90 hx (hb hby at_166) rfl ?_
      refine E.iload (q := 170) X90 hx (hb hby at_168) rfl ?_
      refine E.iadd (q := 171) X90 hx (hb hby at_170) ?_
      obtain ⟨t3, ht3⟩ : ∃ z, z = (t2 + dt3) := ⟨_, rfl⟩
      rw [← ht3]
      refine E.istore (q := 173) (l' := #[.val (.int vx), .val (.int vy), .val (.long vh), .second, .val (.int vs), .val (.int vt), .val (.int vp), .val (.int tB), .val (.int pB), .val (.int dp0), .val (.int dt1), .val (.int dp1), .val (.int dt2), .val (.int dp2), .val (.int dt3), .val (.int dp3), .val (.int tB), .val (.int p0), .val (.int t1), .val (.int p1), .val (.int t2), .val (.int p2), .val (.int t3), .unset, .unset, .unset, .unset, .unset, .unset, .unset, .unset, .unset, .unset, .unset, .unset]) X90 hx (hb hby at_171) rfl ?_
      refine E.iload (q := 175) X90 hx (hb hby at_173) rfl ?_
      have J3 : ∀ p3, own_stp dt3 p2 pB dp3 p3 → Ends p e below s (fun v h L => v = some (.int 1) ∧ Fr h0.size L) room_1.cells room_1.slots T90 (mkF m 193 #[.val (.int vx), .val (.int vy), .val (.long vh), .second, .val (.int vs), .val (.int vt), .val (.int vp), .val (.int tB), .val (.int pB), .val (.int dp0), .val (.int dt1), .val (.int dp1), .val (.int dt2), .val (.int dp2), .val (.int dt3), .val (.int dp3), .val (.int tB), .val (.int p0), .val (.int t1), .val (.int p1), .val (.int t2), .val (.int p2), .val (.int t3), .unset, .unset, .unset, .unset, .unset, .unset, .unset, .unset, .unset, .unset, .unset, .unset] [(.int p3)]) := by
        intro p3 hst3
        show Ends p e below s _ _ _ T90 (mkF m 193 #[.val (.int vx), .val (.int vy), .val (.long vh), .second, .val (.int vs), .val (.int vt), .val (.int vp), .val (.int tB), .val (.int pB), .val (.int dp0), .val (.int dt1), .val (.int dp1), .val (.int dt2), .val (.int dp2), .val (.int dt3), .val (.int dp3), .val (.int tB), .val (.int p0), .val (.int t1), .val (.int p1), .val (.int t2), .val (.int p2), .val (.int t3), .unset, .unset, .unset, .unset, .unset, .unset, .unset, .unset, .unset, .unset, .unset, .unset] [(.int p3)])
        refine E.istore (q := 195) (l' := #[.val (.int vx), .val (.int vy), .val (.long vh), .second, .val (.int vs), .val (.int vt), .val (.int vp), .val (.int tB), .val (.int pB), .val (.int dp0), .val (.int dt1), .val (.int dp1), .val (.int dt2), .val (.int dp2), .val (.int dt3), .val (.int dp3), .val (.int tB), .val (.int p0), .val (.int t1), .val (.int p1), .val (.int t2), .val (.int p2), .val (.int t3), .val (.int p3), .unset, .unset, .unset, .unset, .unset, .unset, .unset, .unset, .unset, .unset, .unset]) X90 hx (hb hby at_193) rfl ?_
        refine E.iload (q := 197) X90 hx (hb hby at_195) rfl ?_
        refine E.bipush (q := 199) (v := (7 : Int32)) X90 hx (hb hby at_197) rfl ?_
        refine E.iand (q := 200) X90 hx (hb hby at_199) ?_
        refine E.iconst (q := 201) (v := (5 : Int32)) X90 hx (hb hby at_200) rfl ?_
        refine E.irem (q := 202) X90 hx (hb hby at_201) (by decide) ?_
        obtain ⟨nn, hnn⟩ : ∃ z, z = ((vs &&& (7 : Int32)) % (5 : Int32)) := ⟨_, rfl⟩
        rw [← hnn]
        obtain ⟨S0, S1, S2⟩ := own_facts btB bpB bdp0 bdt1 bdp1 bdt2 bdp2 bdt3 bdp3 hp0 ht1 ht2 ht3 hst1 hst2 hst3
        rcases own_five hnn with hn | hn | hn | hn | hn
        · subst hn
          show Ends p e below s _ _ _ T90 (mkF m 202 #[.val (.int vx), .val (.int vy), .val (.long vh), .second, .val (.int vs), .val (.int vt), .val (.int vp), .val (.int tB), .val (.int pB), .val (.int dp0), .val (.int dt1), .val (.int dp1), .val (.int dt2), .val (.int dp2), .val (.int dt3), .val (.int dp3), .val (.int tB), .val (.int p0), .val (.int t1), .val (.int p1), .val (.int t2), .val (.int p2), .val (.int t3), .val (.int p3), .unset, .unset, .unset, .unset, .unset, .unset, .unset, .unset, .unset, .unset, .unset] [(.int (0 : Int32))])
          refine E.istore (q := 204) (l' := #[.val (.int vx), .val (.int vy), .val (.long vh), .second, .val (.int vs), .val (.int vt), .val (.int vp), .val (.int tB), .val (.int pB), .val (.int dp0), .val (.int dt1), .val (.int dp1), .val (.int dt2), .val (.int dp2), .val (.int dt3), .val (.int dp3), .val (.int tB), .val (.int p0), .val (.int t1), .val (.int p1), .val (.int t2), .val (.int p2), .val (.int t3), .val (.int p3), .val (.int (0 : Int32)), .unset, .unset, .unset, .unset, .unset, .unset, .unset, .unset, .unset, .unset]) X90 hx (hb hby at_202) rfl ?_
          refine E.iload (q := 206) X90 hx (hb hby at_204) rfl ?_
          refine Ends.newA X90 hx hZ (hw _ (List.mem_of_getElem? (i := 8) rfl)) e90 (hb hby at_206) (N := 0) rfl (by decide) (by decide) (by decide) ?_
          intro T91 h91 b91 g91 X91 e91 E91 A91
          have ge_b91 : h0.size ≤ b91 := Nat.le_trans O0.le (Nat.le_of_eq g91.symm)
          have O91 := O0.ext E91
          have V91 : Ary Z h91 b91 .int [] := A91
          refine E.astore (q := 210) (l' := #[.val (.int vx), .val (.int vy), .val (.long vh), .second, .val (.int vs), .val (.int vt), .val (.int vp), .val (.int tB), .val (.int pB), .val (.int dp0), .val (.int dt1), .val (.int dp1), .val (.int dt2), .val (.int dp2), .val (.int dt3), .val (.int dp3), .val (.int tB), .val (.int p0), .val (.int t1), .val (.int p1), .val (.int t2), .val (.int p2), .val (.int t3), .val (.int p3), .val (.int (0 : Int32)), .val (.ref b91), .unset, .unset, .unset, .unset, .unset, .unset, .unset, .unset, .unset]) X91 hx (hb hby at_208) rfl rfl ?_
          refine E.iload (q := 212) X91 hx (hb hby at_210) rfl ?_
          refine Ends.newA X91 hx hZ (hw _ (List.mem_of_getElem? (i := 8) rfl)) e91 (hb hby at_212) (N := 0) rfl (by decide) (by decide) (by decide) ?_
          intro T92 h92 b92 g92 X92 e92 E92 A92
          have ge_b92 : h0.size ≤ b92 := Nat.le_trans O91.le (Nat.le_of_eq g92.symm)
          have O92 := O91.ext E92
          have V92 : Ary Z h92 b92 .int [] := A92
          refine E.astore (q := 216) (l' := #[.val (.int vx), .val (.int vy), .val (.long vh), .second, .val (.int vs), .val (.int vt), .val (.int vp), .val (.int tB), .val (.int pB), .val (.int dp0), .val (.int dt1), .val (.int dp1), .val (.int dt2), .val (.int dp2), .val (.int dt3), .val (.int dp3), .val (.int tB), .val (.int p0), .val (.int t1), .val (.int p1), .val (.int t2), .val (.int p2), .val (.int t3), .val (.int p3), .val (.int (0 : Int32)), .val (.ref b91), .val (.ref b92), .unset, .unset, .unset, .unset, .unset, .unset, .unset, .unset]) X92 hx (hb hby at_214) rfl rfl ?_
          refine E.iload (q := 218) X92 hx (hb hby at_216) rfl ?_
          refine E.ifY (q := 233) X92 hx (hb hby at_218) (XT.i0_le_t (by decide)) ?_
          refine E.iload (q := 235) X92 hx (hb hby at_233) rfl ?_
          refine E.iconst (q := 236) (v := (1 : Int32)) X92 hx (hb hby at_235) rfl ?_
          refine E.icmpY (q := 251) X92 hx (hb hby at_236) (XT.ii_le_t (by decide)) ?_
          refine E.iload (q := 253) X92 hx (hb hby at_251) rfl ?_
          refine E.iconst (q := 254) (v := (2 : Int32)) X92 hx (hb hby at_253) rfl ?_
          refine E.icmpY (q := 269) X92 hx (hb hby at_254) (XT.ii_le_t (by decide)) ?_
          refine E.iload (q := 271) X92 hx (hb hby at_269) rfl ?_
          refine E.iconst (q := 272) (v := (3 : Int32)) X92 hx (hb hby at_271) rfl ?_
          refine E.icmpY (q := 287) X92 hx (hb hby at_272) (XT.ii_le_t (by decide)) ?_
          refine Ends.newC X92 hx hZ hown (hw _ (List.mem_of_getElem? (i := 9) rfl)) (hw _ (List.mem_of_getElem? (i := 10) rfl)) (hw _ (List.mem_of_getElem? (i := 11) rfl)) e92 (hb hby at_287) (by decide) (by decide) ?_
          intro T93 h93 b93 g93 X93 e93 E93 A93 D93
          have ge_b93 : h0.size ≤ b93 := Nat.le_trans O92.le (Nat.le_of_eq g93.symm)
          have O93 := O92.ext E93
          have F93_trips : Fld Z h93 b93 "com/example/hourline/hourline/network/Timetable$Calls" "trips" "[I" .null := D93 (Or.inr (hw _ (List.mem_of_getElem? (i := 25) rfl))) (ty := (.array .int)) (by decide)
          have F93_positions : Fld Z h93 b93 "com/example/hourline/hourline/network/Timetable$Calls" "positions" "[I" .null := D93 (Or.inr (hw _ (List.mem_of_getElem? (i := 27) rfl))) (ty := (.array .int)) (by decide)
          have F93_arrivals : Fld Z h93 b93 "com/example/hourline/hourline/network/Timetable$Calls" "arrivals" "[I" .null := D93 (Or.inr (hw _ (List.mem_of_getElem? (i := 29) rfl))) (ty := (.array .int)) (by decide)
          have F93_departures : Fld Z h93 b93 "com/example/hourline/hourline/network/Timetable$Calls" "departures" "[I" .null := D93 (Or.inr (hw _ (List.mem_of_getElem? (i := 31) rfl))) (ty := (.array .int)) (by decide)
          have F93_kinds : Fld Z h93 b93 "com/example/hourline/hourline/network/Timetable$Calls" "kinds" "[B" .null := D93 (Or.inr (hw _ (List.mem_of_getElem? (i := 33) rfl))) (ty := (.array .byte)) (by decide)
          refine E.dup (q := 291) X93 hx (hb hby at_290) rfl ?_
          refine E.aload (q := 293) X93 hx (hb hby at_291) rfl rfl ?_
          refine E.aload (q := 295) X93 hx (hb hby at_293) rfl rfl ?_
          refine E.iload (q := 297) X93 hx (hb hby at_295) rfl ?_
          refine Ends.newA X93 hx hZ (hw _ (List.mem_of_getElem? (i := 8) rfl)) e93 (hb hby at_297) (N := 0) rfl (by decide) (by decide) (by decide) ?_
          intro T94 h94 b94 g94 X94 e94 E94 A94
          have ge_b94 : h0.size ≤ b94 := Nat.le_trans O93.le (Nat.le_of_eq g94.symm)
          have O94 := O93.ext E94
          have V94 : Ary Z h94 b94 .int [] := A94
          refine E.iload (q := 301) X94 hx (hb hby at_299) rfl ?_
          refine Ends.newA X94 hx hZ (hw _ (List.mem_of_getElem? (i := 8) rfl)) e94 (hb hby at_301) (N := 0) rfl (by decide) (by decide) (by decide) ?_
          intro T95 h95 b95 g95 X95 e95 E95 A95
          have ge_b95 : h0.size ≤ b95 := Nat.le_trans O94.le (Nat.le_of_eq g95.symm)
          have O95 := O94.ext E95
          have V95 : Ary Z h95 b95 .int [] := A95
          refine E.iload (q := 305) X95 hx (hb hby at_303) rfl ?_
          refine Ends.newA X95 hx hZ (hw _ (List.mem_of_getElem? (i := 12) rfl)) e95 (hb hby at_305) (N := 0) rfl (by decide) (by decide) (by decide) ?_
          intro T96 h96 b96 g96 X96 e96 E96 A96
          have ge_b96 : h0.size ≤ b96 := Nat.le_trans O95.le (Nat.le_of_eq g96.symm)
          have O96 := O95.ext E96
          have V96 : Ary Z h96 b96 .byte [] := A96
          have f97 := A93.ext E94
          have f98 := f97.ext E95
          have f99 := f98.ext E96
          have f100 := F93_trips.ext E94
          have f101 := f100.ext E95
          have f102 := f101.ext E96
          have f103 := F93_positions.ext E94
          have f104 := f103.ext E95
          have f105 := f104.ext E96
          have f106 := F93_arrivals.ext E94
          have f107 := f106.ext E95
          have f108 := f107.ext E96
          have f109 := F93_departures.ext E94
          have f110 := f109.ext E95
          have f111 := f110.ext E96
          have f112 := F93_kinds.ext E94
          have f113 := f112.ext E95
          have f114 := f113.ext E96
          refine Ends.callI X96 hx hZ hown (hw _ (List.mem_of_getElem? (i := 13) rfl)) (hw _ (List.mem_of_getElem? (i := 14) rfl)) (hw _ (List.mem_of_getElem? (i := 11) rfl)) (hw _ (List.mem_of_getElem? (i := 15) rfl)) rfl (by decide) (argsL := [(.ref b91), (.ref b92), (.ref b94), (.ref b95), (.ref b96)]) (rest := [(.ref b93)]) e96 (rm2 l Z a0 hw b93 b91 b92 b94 b95 b96 h96 f99 f102 f105 f108 f111 f114) (W := 1) (by decide) (by decide) (by rw [hml]; rfl) (lenOf pd_2 rfl) (Nat.le_of_eq rfl) (hb hby at_307) (by decide) (by decide) rfl ?_
          rintro T115 v115 L115 X115 ⟨rfl, hO115, hFt115, hFp115⟩
          have e115 : T115.heap = T115.heap := rfl
          have O115 := O96.call hO115 (allS (Or.inr ge_b93) all0)
          show Ends p e below s _ _ _ T115 (mkF m 310 #[.val (.int vx), .val (.int vy), .val (.long vh), .second, .val (.int vs), .val (.int vt), .val (.int vp), .val (.int tB), .val (.int pB), .val (.int dp0), .val (.int dt1), .val (.int dp1), .val (.int dt2), .val (.int dp2), .val (.int dt3), .val (.int dp3), .val (.int tB), .val (.int p0), .val (.int t1), .val (.int p1), .val (.int t2), .val (.int p2), .val (.int t3), .val (.int p3), .val (.int (0 : Int32)), .val (.ref b91), .val (.ref b92), .unset, .unset, .unset, .unset, .unset, .unset, .unset, .unset] [(.ref b93)])
          refine E.astore (q := 312) (l' := #[.val (.int vx), .val (.int vy), .val (.long vh), .second, .val (.int vs), .val (.int vt), .val (.int vp), .val (.int tB), .val (.int pB), .val (.int dp0), .val (.int dt1), .val (.int dp1), .val (.int dt2), .val (.int dp2), .val (.int dt3), .val (.int dp3), .val (.int tB), .val (.int p0), .val (.int t1), .val (.int p1), .val (.int t2), .val (.int p2), .val (.int t3), .val (.int p3), .val (.int (0 : Int32)), .val (.ref b91), .val (.ref b92), .val (.ref b93), .unset, .unset, .unset, .unset, .unset, .unset, .unset]) X115 hx (hb hby at_310) rfl rfl ?_
          refine E.iload (q := 314) X115 hx (hb hby at_312) rfl ?_
          refine E.istore (q := 316) (l' := #[.val (.int vx), .val (.int vy), .val (.long vh), .second, .val (.int vs), .val (.int vt), .val (.int vp), .val (.int tB), .val (.int pB), .val (.int dp0), .val (.int dt1), .val (.int dp1), .val (.int dt2), .val (.int dp2), .val (.int dt3), .val (.int dp3), .val (.int tB), .val (.int p0), .val (.int t1), .val (.int p1), .val (.int t2), .val (.int p2), .val (.int t3), .val (.int p3), .val (.int (0 : Int32)), .val (.ref b91), .val (.ref b92), .val (.ref b93), .val (.int vt), .unset, .unset, .unset, .unset, .unset, .unset]) X115 hx (hb hby at_314) rfl ?_
          refine E.iload (q := 318) X115 hx (hb hby at_316) rfl ?_
          refine E.istore (q := 320) (l' := #[.val (.int vx), .val (.int vy), .val (.long vh), .second, .val (.int vs), .val (.int vt), .val (.int vp), .val (.int tB), .val (.int pB), .val (.int dp0), .val (.int dt1), .val (.int dp1), .val (.int dt2), .val (.int dp2), .val (.int dt3), .val (.int dp3), .val (.int tB), .val (.int p0), .val (.int t1), .val (.int p1), .val (.int t2), .val (.int p2), .val (.int t3), .val (.int p3), .val (.int (0 : Int32)), .val (.ref b91), .val (.ref b92), .val (.ref b93), .val (.int vt), .val (.int vp), .unset, .unset, .unset, .unset, .unset]) X115 hx (hb hby at_318) rfl ?_
          refine E.iload (q := 322) X115 hx (hb hby at_320) rfl ?_
          refine E.iconst (q := 323) (v := (3 : Int32)) X115 hx (hb hby at_322) rfl ?_
          refine E.iushr (q := 324) X115 hx (hb hby at_323) ?_
          refine E.iconst (q := 325) (v := (3 : Int32)) X115 hx (hb hby at_324) rfl ?_
          refine E.iand (q := 326) X115 hx (hb hby at_325) ?_
          refine E.istore (q := 328) (l' := #[.val (.int vx), .val (.int vy), .val (.long vh), .second, .val (.int vs), .val (.int vt), .val (.int vp), .val (.int tB), .val (.int pB), .val (.int dp0), .val (.int dt1), .val (.int dp1), .val (.int dt2), .val (.int dp2), .val (.int dt3), .val (.int dp3), .val (.int tB), .val (.int p0), .val (.int t1), .val (.int p1), .val (.int t2), .val (.int p2), .val (.int t3), .val (.int p3), .val (.int (0 : Int32)), .val (.ref b91), .val (.ref b92), .val (.ref b93), .val (.int vt), .val (.int vp), .val (.int (((vs.toUInt32 >>> ((3 : Int32) &&& 31).toUInt32).toInt32) &&& (3 : Int32))), .unset, .unset, .unset, .unset]) X115 hx (hb hby at_326) rfl ?_
          refine E.iload (q := 330) X115 hx (hb hby at_328) rfl ?_
          refine E.ifY (q := 438) X115 hx (hb hby at_330) (XT.i0_le_t (by decide)) ?_
          obtain ⟨lq116, cq116, sq116, Xp116, Op116, hcq116, hsq116⟩ : ∃ (lq : List Loc) (cq sq : Nat), Stand p l e room_1 s m #[(.int vx), (.int vy), (.long vh), (.int vs), (.int vt), (.int vp)] below meth c T115 lq cq sq ∧ Ok h0 T115.heap [] lq ∧ cq = 6 ∧ sq = 5 := ⟨_, _, _, X115, O115, rfl, rfl⟩
          subst hcq116 hsq116
          have JQ : ∀ (Tq : State) (tq pq : Int32) (s30 s31 s32 s33 s34 : Slot), Stand p l e room_1 s m #[(.int vx), (.int vy), (.long vh), (.int vs), (.int vt), (.int vp)] below meth c Tq lq116 6 5 → Tq.heap = T115.heap → (s31 = .unset ∨ ∃ w, s31 = .val w ∧ w.category = 1) → Ends p e below s (fun v h L => v = some (.int 1) ∧ Fr h0.size L) room_1.cells room_1.slots Tq (mkF m 438 #[.val (.int vx), .val (.int vy), .val (.long vh), .second, .val (.int vs), .val (.int vt), .val (.int vp), .val (.int tB), .val (.int pB), .val (.int dp0), .val (.int dt1), .val (.int dp1), .val (.int dt2), .val (.int dp2), .val (.int dt3), .val (.int dp3), .val (.int tB), .val (.int p0), .val (.int t1), .val (.int p1), .val (.int t2), .val (.int p2), .val (.int t3), .val (.int p3), .val (.int (0 : Int32)), .val (.ref b91), .val (.ref b92), .val (.ref b93), .val (.int tq), .val (.int pq), s30, s31, s32, s33, s34] []) := by
            intro Tq tq pq s30 s31 s32 s33 s34 Xq eq_ h31
            show Ends p e below s _ _ _ Tq (mkF m 438 #[.val (.int vx), .val (.int vy), .val (.long vh), .second, .val (.int vs), .val (.int vt), .val (.int vp), .val (.int tB), .val (.int pB), .val (.int dp0), .val (.int dt1), .val (.int dp1), .val (.int dt2), .val (.int dp2), .val (.int dt3), .val (.int dp3), .val (.int tB), .val (.int p0), .val (.int t1), .val (.int p1), .val (.int t2), .val (.int p2), .val (.int t3), .val (.int p3), .val (.int (0 : Int32)), .val (.ref b91), .val (.ref b92), .val (.ref b93), .val (.int tq), .val (.int pq), s30, s31, s32, s33, s34] [])
            refine E.iconst (q := 439) (v := (-1 : Int32)) Xq hx (hb hby at_438) rfl ?_
            refine E.istore (q := 441) (l' := #[.val (.int vx), .val (.int vy), .val (.long vh), .second, .val (.int vs), .val (.int vt), .val (.int vp), .val (.int tB), .val (.int pB), .val (.int dp0), .val (.int dt1), .val (.int dp1), .val (.int dt2), .val (.int dp2), .val (.int dt3), .val (.int dp3), .val (.int tB), .val (.int p0), .val (.int t1), .val (.int p1), .val (.int t2), .val (.int p2), .val (.int t3), .val (.int p3), .val (.int (0 : Int32)), .val (.ref b91), .val (.ref b92), .val (.ref b93), .val (.int tq), .val (.int pq), s30, .val (.int (-1 : Int32)), s32, s33, s34]) Xq hx (hb hby at_439) (XS.store1 rfl h31 rfl) ?_
            refine E.iload (q := 443) Xq hx (hb hby at_441) rfl ?_
            refine E.ifY (q := 463) Xq hx (hb hby at_443) (XT.i0_le_t (by decide)) ?_
            refine E.iload (q := 465) Xq hx (hb hby at_463) rfl ?_
            refine E.iconst (q := 466) (v := (1 : Int32)) Xq hx (hb hby at_465) rfl ?_
            refine E.icmpY (q := 486) Xq hx (hb hby at_466) (XT.ii_le_t (by decide)) ?_
            refine E.iload (q := 488) Xq hx (hb hby at_486) rfl ?_
            refine E.iconst (q := 489) (v := (2 : Int32)) Xq hx (hb hby at_488) rfl ?_
            refine E.icmpY (q := 509) Xq hx (hb hby at_489) (XT.ii_le_t (by decide)) ?_
            refine E.iload (q := 511) Xq hx (hb hby at_509) rfl ?_
            refine E.iconst (q := 512) (v := (3 : Int32)) Xq hx (hb hby at_511) rfl ?_
            refine E.icmpY (q := 532) Xq hx (hb hby at_512) (XT.ii_le_t (by decide)) ?_
            refine E.aload (q := 534) Xq hx (hb hby at_532) rfl rfl ?_
            refine E.iload (q := 536) Xq hx (hb hby at_534) rfl ?_
            refine E.iload (q := 538) Xq hx (hb hby at_536) rfl ?_
            have f117 := V91.ext E92
            have f118 := f117.ext E93
            have f119 := f118.ext E94
            have f120 := f119.ext E95
            have f121 := f120.ext E96
            have f122 := f121.keep hO115.1 (ninS (Nat.ne_of_lt (Nat.lt_of_lt_of_eq f117.lt g93.symm)) nin0)
            have f123 := V92.ext E93
            have f124 := f123.ext E94
            have f125 := f124.ext E95
            have f126 := f125.ext E96
            have f127 := f126.keep hO115.1 (ninS (Nat.ne_of_lt (Nat.lt_of_lt_of_eq V92.lt g93.symm)) nin0)
            have f128 := f99.keep hO115.1
            refine Ends.callV Xq hx hZ hown (hw _ (List.mem_of_getElem? (i := 34) rfl)) (hw _ (List.mem_of_getElem? (i := 35) rfl)) (hw _ (List.mem_of_getElem? (i := 37) rfl)) (hw _ (List.mem_of_getElem? (i := 36) rfl)) (hw _ (List.mem_of_getElem? (i := 11) rfl)) (hw _ (List.mem_of_getElem? (i := 38) rfl)) (by decide) (argsL := [(.int tq), (.int pq)]) (rest := []) eq_ f128 (rmF0 l Z a0 hw b93 tq pq b91 b92  T115.heap hFt115 hFp115 f122 f127) (W := 0) (by decide) (by decide) (by rw [hml]; rfl) (lenOf pd_1 rfl) (Nat.le_of_eq rfl) (hb hby at_538) (by decide) (by decide) rfl ?_
            rintro T129 v129 L129 X129 ⟨rfl, e129, rfl⟩
            rw [List.append_nil] at X129
            show Ends p e below s _ _ _ T129 (mkF m 541 #[.val (.int vx), .val (.int vy), .val (.long vh), .second, .val (.int vs), .val (.int vt), .val (.int vp), .val (.int tB), .val (.int pB), .val (.int dp0), .val (.int dt1), .val (.int dp1), .val (.int dt2), .val (.int dp2), .val (.int dt3), .val (.int dp3), .val (.int tB), .val (.int p0), .val (.int t1), .val (.int p1), .val (.int t2), .val (.int p2), .val (.int t3), .val (.int p3), .val (.int (0 : Int32)), .val (.ref b91), .val (.ref b92), .val (.ref b93), .val (.int tq), .val (.int pq), s30, .val (.int (-1 : Int32)), s32, s33, s34] [(.int (-1 : Int32))])
            refine E.iload (q := 543) X129 hx (hb hby at_541) rfl ?_
            refine E.icmpN (q := 546) X129 hx (hb hby at_543) (XT.ii_ne_f (by decide)) ?_
            refine E.iconst (q := 547) (v := (1 : Int32)) X129 hx (hb hby at_546) rfl ?_
            refine E.goto (q := 551) X129 hx (hb hby at_547) ?_
            exact Ends.retS X129 hx hlk hret (by simp) rfl (hb hby at_551) (by decide) (by decide) ⟨rfl, Op116.fr⟩
          exact JQ _ _ _ _ _ _ _ _ Xp116 e115 (Or.inl rfl)
        · subst hn
          show Ends p e below s _ _ _ T90 (mkF m 202 #[.val (.int vx), .val (.int vy), .val (.long vh), .second, .val (.int vs), .val (.int vt), .val (.int vp), .val (.int tB), .val (.int pB), .val (.int dp0), .val (.int dt1), .val (.int dp1), .val (.int dt2), .val (.int dp2), .val (.int dt3), .val (.int dp3), .val (.int tB), .val (.int p0), .val (.int t1), .val (.int p1), .val (.int t2), .val (.int p2), .val (.int t3), .val (.int p3), .unset, .unset, .unset, .unset, .unset, .unset, .unset, .unset, .unset, .unset, .unset] [(.int (1 : Int32))])
          refine E.istore (q := 204) (l' := #[.val (.int vx), .val (.int vy), .val (.long vh), .second, .val (.int vs), .val (.int vt), .val (.int vp), .val (.int tB), .val (.int pB), .val (.int dp0), .val (.int dt1), .val (.int dp1), .val (.int dt2), .val (.int dp2), .val (.int dt3), .val (.int dp3), .val (.int tB), .val (.int p0), .val (.int t1), .val (.int p1), .val (.int t2), .val (.int p2), .val (.int t3), .val (.int p3), .val (.int (1 : Int32)), .unset, .unset, .unset, .unset, .unset, .unset, .unset, .unset, .unset, .unset]) X90 hx (hb hby at_202) rfl ?_
          refine E.iload (q := 206) X90 hx (hb hby at_204) rfl ?_
          refine Ends.newA X90 hx hZ (hw _ (List.mem_of_getElem? (i := 8) rfl)) e90 (hb hby at_206) (N := 1) rfl (by decide) (by decide) (by decide) ?_
          intro T130 h130 b130 g130 X130 e130 E130 A130
          have ge_b130 : h0.size ≤ b130 := Nat.le_trans O0.le (Nat.le_of_eq g130.symm)
          have O130 := O0.ext E130
          have V130 : Ary Z h130 b130 .int [(.int (0 : Int32))] := A130
          refine E.astore (q := 210) (l' := #[.val (.int vx), .val (.int vy), .val (.long vh), .second, .val (.int vs), .val (.int vt), .val (.int vp), .val (.int tB), .val (.int pB), .val (.int dp0), .val (.int dt1), .val (.int dp1), .val (.int dt2), .val (.int dp2), .val (.int dt3), .val (.int dp3), .val (.int tB), .val (.int p0), .val (.int t1), .val (.int p1), .val (.int t2), .val (.int p2), .val (.int t3), .val (.int p3), .val (.int (1 : Int32)), .val (.ref b130), .unset, .unset, .unset, .unset, .unset, .unset, .unset, .unset, .unset]) X130 hx (hb hby at_208) rfl rfl ?_
          refine E.iload (q := 212) X130 hx (hb hby at_210) rfl ?_
          refine Ends.newA X130 hx hZ (hw _ (List.mem_of_getElem? (i := 8) rfl)) e130 (hb hby at_212) (N := 1) rfl (by decide) (by decide) (by decide) ?_
          intro T131 h131 b131 g131 X131 e131 E131 A131
          have ge_b131 : h0.size ≤ b131 := Nat.le_trans O130.le (Nat.le_of_eq g131.symm)
          have O131 := O130.ext E131
          have V131 : Ary Z h131 b131 .int [(.int (0 : Int32))] := A131
          refine E.astore (q := 216) (l' := #[.val (.int vx), .val (.int vy), .val (.long vh), .second, .val (.int vs), .val (.int vt), .val (.int vp), .val (.int tB), .val (.int pB), .val (.int dp0), .val (.int dt1), .val (.int dp1), .val (.int dt2), .val (.int dp2), .val (.int dt3), .val (.int dp3), .val (.int tB), .val (.int p0), .val (.int t1), .val (.int p1), .val (.int t2), .val (.int p2), .val (.int t3), .val (.int p3), .val (.int (1 : Int32)), .val (.ref b130), .val (.ref b131), .unset, .unset, .unset, .unset, .unset, .unset, .unset, .unset]) X131 hx (hb hby at_214) rfl rfl ?_
          refine E.iload (q := 218) X131 hx (hb hby at_216) rfl ?_
          refine E.ifN (q := 221) X131 hx (hb hby at_218) (XT.i0_le_f (by decide)) ?_
          refine E.aload (q := 223) X131 hx (hb hby at_221) rfl rfl ?_
          refine E.iconst (q := 224) (v := (0 : Int32)) X131 hx (hb hby at_223) rfl ?_
          refine E.iload (q := 226) X131 hx (hb hby at_224) rfl ?_
          have f132 := V130.ext E131
          refine Ends.ist X131 hx hZ e131 f132 (i := 0) rfl (show 0 < 1 from by decide) (hb hby at_226) ?_
          intro T133 h133 X133 e133 W133 V133
          have V133 : Ary Z h133 b130 .int [(.int tB)] := V133
          have O133 := O131.wr W133 (Or.inr ge_b130)
          refine E.aload (q := 229) X133 hx (hb hby at_227) rfl rfl ?_
          refine E.iconst (q := 230) (v := (0 : Int32)) X133 hx (hb hby at_229) rfl ?_
          refine E.iload (q := 232) X133 hx (hb hby at_230) rfl ?_
          have f134 := V131.other W133 (Ne.symm (Nat.ne_of_lt (Nat.lt_of_lt_of_eq V130.lt g131.symm)))
          refine Ends.ist X133 hx hZ e133 f134 (i := 0) rfl (show 0 < 1 from by decide) (hb hby at_232) ?_
          intro T135 h135 X135 e135 W135 V135
          have V135 : Ary Z h135 b131 .int [(.int p0)] := V135
          have O135 := O133.wr W135 (Or.inr ge_b131)
          refine E.iload (q := 235) X135 hx (hb hby at_233) rfl ?_
          refine E.iconst (q := 236) (v := (1 : Int32)) X135 hx (hb hby at_235) rfl ?_
          refine E.icmpY (q := 251) X135 hx (hb hby at_236) (XT.ii_le_t (by decide)) ?_
          refine E.iload (q := 253) X135 hx (hb hby at_251) rfl ?_
          refine E.iconst (q := 254) (v := (2 : Int32)) X135 hx (hb hby at_253) rfl ?_
          refine E.icmpY (q := 269) X135 hx (hb hby at_254) (XT.ii_le_t (by decide)) ?_
          refine E.iload (q := 271) X135 hx (hb hby at_269) rfl ?_
          refine E.iconst (q := 272) (v := (3 : Int32)) X135 hx (hb hby at_271) rfl ?_
          refine E.icmpY (q := 287) X135 hx (hb hby at_272) (XT.ii_le_t (by decide)) ?_
          refine Ends.newC X135 hx hZ hown (hw _ (List.mem_of_getElem? (i := 9) rfl)) (hw _ (List.mem_of_getElem? (i := 10) rfl)) (hw _ (List.mem_of_getElem? (i := 11) rfl)) e135 (hb hby at_287) (by decide) (by decide) ?_
          intro T136 h136 b136 g136 X136 e136 E136 A136 D136
          have ge_b136 : h0.size ≤ b136 := Nat.le_trans O135.le (Nat.le_of_eq g136.symm)
          have O136 := O135.ext E136
          have F136_trips : Fld Z h136 b136 "com/example/hourline/hourline/network/Timetable$Calls" "trips" "[I" .null := D136 (Or.inr (hw _ (List.mem_of_getElem? (i := 25) rfl))) (ty := (.array .int)) (by decide)
          have F136_positions : Fld Z h136 b136 "com/example/hourline/hourline/network/Timetable$Calls" "positions" "[I" .null := D136 (Or.inr (hw _ (List.mem_of_getElem? (i := 27) rfl))) (ty := (.array .int)) (by decide)
          have F136_arrivals : Fld Z h136 b136 "com/example/hourline/hourline/network/Timetable$Calls" "arrivals" "[I" .null := D136 (Or.inr (hw _ (List.mem_of_getElem? (i := 29) rfl))) (ty := (.array .int)) (by decide)
          have F136_departures : Fld Z h136 b136 "com/example/hourline/hourline/network/Timetable$Calls" "departures" "[I" .null := D136 (Or.inr (hw _ (List.mem_of_getElem? (i := 31) rfl))) (ty := (.array .int)) (by decide)
          have F136_kinds : Fld Z h136 b136 "com/example/hourline/hourline/network/Timetable$Calls" "kinds" "[B" .null := D136 (Or.inr (hw _ (List.mem_of_getElem? (i := 33) rfl))) (ty := (.array .byte)) (by decide)
          refine E.dup (q := 291) X136 hx (hb hby at_290) rfl ?_
          refine E.aload (q := 293) X136 hx (hb hby at_291) rfl rfl ?_
          refine E.aload (q := 295) X136 hx (hb hby at_293) rfl rfl ?_
          refine E.iload (q := 297) X136 hx (hb hby at_295) rfl ?_
          refine Ends.newA X136 hx hZ (hw _ (List.mem_of_getElem? (i := 8) rfl)) e136 (hb hby at_297) (N := 1) rfl (by decide) (by decide) (by decide) ?_
          intro T137 h137 b137 g137 X137 e137 E137 A137
          have ge_b137 : h0.size ≤ b137 := Nat.le_trans O136.le (Nat.le_of_eq g137.symm)
          have O137 := O136.ext E137
          have V137 : Ary Z h137 b137 .int [(.int (0 : Int32))] := A137
          refine E.iload (q := 301) X137 hx (hb hby at_299) rfl ?_
          refine Ends.newA X137 hx hZ (hw _ (List.mem_of_getElem? (i := 8) rfl)) e137 (hb hby at_301) (N := 1) rfl (by decide) (by decide) (by decide) ?_
          intro T138 h138 b138 g138 X138 e138 E138 A138
          have ge_b138 : h0.size ≤ b138 := Nat.le_trans O137.le (Nat.le_of_eq g138.symm)
          have O138 := O137.ext E138
          have V138 : Ary Z h138 b138 .int [(.int (0 : Int32))] := A138
          refine E.iload (q := 305) X138 hx (hb hby at_303) rfl ?_
          refine Ends.newA X138 hx hZ (hw _ (List.mem_of_getElem? (i := 12) rfl)) e138 (hb hby at_305) (N := 1) rfl (by decide) (by decide) (by decide) ?_
          intro T139 h139 b139 g139 X139 e139 E139 A139
          have ge_b139 : h0.size ≤ b139 := Nat.le_trans O138.le (Nat.le_of_eq g139.symm)
          have O139 := O138.ext E139
          have V139 : Ary Z h139 b139 .byte [(.int (0 : Int32))] := A139
          have f140 := A136.ext E137
          have f141 := f140.ext E138
          have f142 := f141.ext E139
          have f143 := F136_trips.ext E137
          have f144 := f143.ext E138
          have f145 := f144.ext E139
          have f146 := F136_positions.ext E137
          have f147 := f146.ext E138
          have f148 := f147.ext E139
          have f149 := F136_arrivals.ext E137
          have f150 := f149.ext E138
          have f151 := f150.ext E139
          have f152 := F136_departures.ext E137
          have f153 := f152.ext E138
          have f154 := f153.ext E139
          have f155 := F136_kinds.ext E137
          have f156 := f155.ext E138
          have f157 := f156.ext E139
          refine Ends.callI X139 hx hZ hown (hw _ (List.mem_of_getElem? (i := 13) rfl)) (hw _ (List.mem_of_getElem? (i := 14) rfl)) (hw _ (List.mem_of_getElem? (i := 11) rfl)) (hw _ (List.mem_of_getElem? (i := 15) rfl)) rfl (by decide) (argsL := [(.ref b130), (.ref b131), (.ref b137), (.ref b138), (.ref b139)]) (rest := [(.ref b136)]) e139 (rm2 l Z a0 hw b136 b130 b131 b137 b138 b139 h139 f142 f145 f148 f151 f154 f157) (W := 1) (by decide) (by decide) (by rw [hml]; rfl) (lenOf pd_2 rfl) (Nat.le_of_eq rfl) (hb hby at_307) (by decide) (by decide) rfl ?_
          rintro T158 v158 L158 X158 ⟨rfl, hO158, hFt158, hFp158⟩
          have e158 : T158.heap = T158.heap := rfl
          have O158 := O139.call hO158 (allS (Or.inr ge_b136) all0)
          show Ends p e below s _ _ _ T158 (mkF m 310 #[.val (.int vx), .val (.int vy), .val (.long vh), .second, .val (.int vs), .val (.int vt), .val (.int vp), .val (.int tB), .val (.int pB), .val (.int dp0), .val (.int dt1), .val (.int dp1), .val (.int dt2), .val (.int dp2), .val (.int dt3), .val (.int dp3), .val (.int tB), .val (.int p0), .val (.int t1), .val (.int p1), .val (.int t2), .val (.int p2), .val (.int t3), .val (.int p3), .val (.int (1 : Int32)), .val (.ref b130), .val (.ref b131), .unset, .unset, .unset, .unset, .unset, .unset, .unset, .unset] [(.ref b136)])
          refine E.astore (q := 312) (l' := #[.val (.int vx), .val (.int vy), .val (.long vh), .second, .val (.int vs), .val (.int vt), .val (.int vp), .val (.int tB), .val (.int pB), .val (.int dp0), .val (.int dt1), .val (.int dp1), .val (.int dt2), .val (.int dp2), .val (.int dt3), .val (.int dp3), .val (.int tB), .val (.int p0), .val (.int t1), .val (.int p1), .val (.int t2), .val (.int p2), .val (.int t3), .val (.int p3), .val (.int (1 : Int32)), .val (.ref b130), .val (.ref b131), .val (.ref b136), .unset, .unset, .unset, .unset, .unset, .unset, .unset]) X158 hx (hb hby at_310) rfl rfl ?_
          refine E.iload (q := 314) X158 hx (hb hby at_312) rfl ?_
          refine E.istore (q := 316) (l' := #[.val (.int vx), .val (.int vy), .val (.long vh), .second, .val (.int vs), .val (.int vt), .val (.int vp), .val (.int tB), .val (.int pB), .val (.int dp0), .val (.int dt1), .val (.int dp1), .val (.int dt2), .val (.int dp2), .val (.int dt3), .val (.int dp3), .val (.int tB), .val (.int p0), .val (.int t1), .val (.int p1), .val (.int t2), .val (.int p2), .val (.int t3), .val (.int p3), .val (.int (1 : Int32)), .val (.ref b130), .val (.ref b131), .val (.ref b136), .val (.int vt), .unset, .unset, .unset, .unset, .unset, .unset]) X158 hx (hb hby at_314) rfl ?_
          refine E.iload (q := 318) X158 hx (hb hby at_316) rfl ?_
          refine E.istore (q := 320) (l' := #[.val (.int vx), .val (.int vy), .val (.long vh), .second, .val (.int vs), .val (.int vt), .val (.int vp), .val (.int tB), .val (.int pB), .val (.int dp0), .val (.int dt1), .val (.int dp1), .val (.int dt2), .val (.int dp2), .val (.int dt3), .val (.int dp3), .val (.int tB), .val (.int p0), .val (.int t1), .val (.int p1), .val (.int t2), .val (.int p2), .val (.int t3), .val (.int p3), .val (.int (1 : Int32)), .val (.ref b130), .val (.ref b131), .val (.ref b136), .val (.int vt), .val (.int vp), .unset, .unset, .unset, .unset, .unset]) X158 hx (hb hby at_318) rfl ?_
          refine E.iload (q := 322) X158 hx (hb hby at_320) rfl ?_
          refine E.iconst (q := 323) (v := (3 : Int32)) X158 hx (hb hby at_322) rfl ?_
          refine E.iushr (q := 324) X158 hx (hb hby at_323) ?_
          refine E.iconst (q := 325) (v := (3 : Int32)) X158 hx (hb hby at_324) rfl ?_
          refine E.iand (q := 326) X158 hx (hb hby at_325) ?_
          refine E.istore (q := 328) (l' := #[.val (.int vx), .val (.int vy), .val (.long vh), .second, .val (.int vs), .val (.int vt), .val (.int vp), .val (.int tB), .val (.int pB), .val (.int dp0), .val (.int dt1), .val (.int dp1), .val (.int dt2), .val (.int dp2), .val (.int dt3), .val (.int dp3), .val (.int tB), .val (.int p0), .val (.int t1), .val (.int p1), .val (.int t2), .val (.int p2), .val (.int t3), .val (.int p3), .val (.int (1 : Int32)), .val (.ref b130), .val (.ref b131), .val (.ref b136), .val (.int vt), .val (.int vp), .val (.int (((vs.toUInt32 >>> ((3 : Int32) &&& 31).toUInt32).toInt32) &&& (3 : Int32))), .unset, .unset, .unset, .unset]) X158 hx (hb hby at_326) rfl ?_
          refine E.iload (q := 330) X158 hx (hb hby at_328) rfl ?_
          refine E.ifN (q := 333) X158 hx (hb hby at_330) (XT.i0_le_f (by decide)) ?_
          refine E.iload (q := 335) X158 hx (hb hby at_333) rfl ?_
          obtain ⟨lq159, cq159, sq159, Xp159, Op159, hcq159, hsq159⟩ : ∃ (lq : List Loc) (cq sq : Nat), Stand p l e room_1 s m #[(.int vx), (.int vy), (.long vh), (.int vs), (.int vt), (.int vp)] below meth c T158 lq cq sq ∧ Ok h0 T158.heap [] lq ∧ cq = 6 ∧ sq = 10 := ⟨_, _, _, X158, O158, rfl, rfl⟩
          subst hcq159 hsq159
          have JQ : ∀ (Tq : State) (tq pq : Int32) (s30 s31 s32 s33 s34 : Slot), Stand p l e room_1 s m #[(.int vx), (.int vy), (.long vh), (.int vs), (.int vt), (.int vp)] below meth c Tq lq159 6 10 → Tq.heap = T158.heap → (s31 = .unset ∨ ∃ w, s31 = .val w ∧ w.category = 1) → Ends p e below s (fun v h L => v = some (.int 1) ∧ Fr h0.size L) room_1.cells room_1.slots Tq (mkF m 438 #[.val (.int vx), .val (.int vy), .val (.long vh), .second, .val (.int vs), .val (.int vt), .val (.int vp), .val (.int tB), .val (.int pB), .val (.int dp0), .val (.int dt1), .val (.int dp1), .val (.int dt2), .val (.int dp2), .val (.int dt3), .val (.int dp3), .val (.int tB), .val (.int p0), .val (.int t1), .val (.int p1), .val (.int t2), .val (.int p2), .val (.int t3), .val (.int p3), .val (.int (1 : Int32)), .val (.ref b130), .val (.ref b131), .val (.ref b136), .val (.int tq), .val (.int pq), s30, s31, s32, s33, s34] []) := by
            intro Tq tq pq s30 s31 s32 s33 s34 Xq eq_ h31
            show Ends p e below s _ _ _ Tq (mkF m 438 #[.val (.int vx), .val (.int vy), .val (.long vh), .second, .val (.int vs), .val (.int vt), .val (.int vp), .val (.int tB), .val (.int pB), .val (.int dp0), .val (.int dt1), .val (.int dp1), .val (.int dt2), .val (.int dp2), .val (.int dt3), .val (.int dp3), .val (.int tB), .val (.int p0), .val (.int t1), .val (.int p1), .val (.int t2), .val (.int p2), .val (.int t3), .val (.int p3), .val (.int (1 : Int32)), .val (.ref b130), .val (.ref b131), .val (.ref b136), .val (.int tq), .val (.int pq), s30, s31, s32, s33, s34] [])
            refine E.iconst (q := 439) (v := (-1 : Int32)) Xq hx (hb hby at_438) rfl ?_
            refine E.istore (q := 441) (l' := #[.val (.int vx), .val (.int vy), .val (.long vh), .second, .val (.int vs), .val (.int vt), .val (.int vp), .val (.int tB), .val (.int pB), .val (.int dp0), .val (.int dt1), .val (.int dp1), .val (.int dt2), .val (.int dp2), .val (.int dt3), .val (.int dp3), .val (.int tB), .val (.int p0), .val (.int t1), .val (.int p1), .val (.int t2), .val (.int p2), .val (.int t3), .val (.int p3), .val (.int (1 : Int32)), .val (.ref b130), .val (.ref b131), .val (.ref b136), .val (.int tq), .val (.int pq), s30, .val (.int (-1 : Int32)), s32, s33, s34]) Xq hx (hb hby at_439) (XS.store1 rfl h31 rfl) ?_
            refine E.iload (q := 443) Xq hx (hb hby at_441) rfl ?_
            refine E.ifN (q := 446) Xq hx (hb hby at_443) (XT.i0_le_f (by decide)) ?_
            refine E.iload (q := 448) Xq hx (hb hby at_446) rfl ?_
            refine E.iload (q := 450) Xq hx (hb hby at_448) rfl ?_
            have JE0 : Ends p e below s (fun v h L => v = some (.int 1) ∧ Fr h0.size L) room_1.cells room_1.slots Tq (mkF m 463 #[.val (.int vx), .val (.int vy), .val (.long vh), .second, .val (.int vs), .val (.int vt), .val (.int vp), .val (.int tB), .val (.int pB), .val (.int dp0), .val (.int dt1), .val (.int dp1), .val (.int dt2), .val (.int dp2), .val (.int dt3), .val (.int dp3), .val (.int tB), .val (.int p0), .val (.int t1), .val (.int p1), .val (.int t2), .val (.int p2), .val (.int t3), .val (.int p3), .val (.int (1 : Int32)), .val (.ref b130), .val (.ref b131), .val (.ref b136), .val (.int tq), .val (.int pq), s30, .val (.int (if tq = tB ∧ pq = p0 then (0 : Int32) else (-1 : Int32))), s32, s33, s34] []) := by
              show Ends p e below s _ _ _ Tq (mkF m 463 #[.val (.int vx), .val (.int vy), .val (.long vh), .second, .val (.int vs), .val (.int vt), .val (.int vp), .val (.int tB), .val (.int pB), .val (.int dp0), .val (.int dt1), .val (.int dp1), .val (.int dt2), .val (.int dp2), .val (.int dt3), .val (.int dp3), .val (.int tB), .val (.int p0), .val (.int t1), .val (.int p1), .val (.int t2), .val (.int p2), .val (.int t3), .val (.int p3), .val (.int (1 : Int32)), .val (.ref b130), .val (.ref b131), .val (.ref b136), .val (.int tq), .val (.int pq), s30, .val (.int (if tq = tB ∧ pq = p0 then (0 : Int32) else (-1 : Int32))), s32, s33, s34] [])
              refine E.iload (q := 465) Xq hx (hb hby at_463) rfl ?_
              refine E.iconst (q := 466) (v := (1 : Int32)) Xq hx (hb hby at_465) rfl ?_
              refine E.icmpY (q := 486) Xq hx (hb hby at_466) (XT.ii_le_t (by decide)) ?_
              refine E.iload (q := 488) Xq hx (hb hby at_486) rfl ?_
              refine E.iconst (q := 489) (v := (2 : Int32)) Xq hx (hb hby at_488) rfl ?_
              refine E.icmpY (q := 509) Xq hx (hb hby at_489) (XT.ii_le_t (by decide)) ?_
              refine E.iload (q := 511) Xq hx (hb hby at_509) rfl ?_
              refine E.iconst (q := 512) (v := (3 : Int32)) Xq hx (hb hby at_511) rfl ?_
              refine E.icmpY (q := 532) Xq hx (hb hby at_512) (XT.ii_le_t (by decide)) ?_
              refine E.aload (q := 534) Xq hx (hb hby at_532) rfl rfl ?_
              refine E.iload (q := 536) Xq hx (hb hby at_534) rfl ?_
              refine E.iload (q := 538) Xq hx (hb hby at_536) rfl ?_
              have f162 := V133.other W135 (Nat.ne_of_lt (Nat.lt_of_lt_of_eq V130.lt g131.symm))
              have f163 := f162.ext E136
              have f164 := f163.ext E137
              have f165 := f164.ext E138
              have f166 := f165.ext E139
              have f167 := f166.keep hO158.1 (ninS (Nat.ne_of_lt (Nat.lt_of_lt_of_eq f162.lt g136.symm)) nin0)
              have f168 := V135.ext E136
              have f169 := f168.ext E137
              have f170 := f169.ext E138
              have f171 := f170.ext E139
              have f172 := f171.keep hO158.1 (ninS (Nat.ne_of_lt (Nat.lt_of_lt_of_eq V135.lt g136.symm)) nin0)
              have f173 := f142.keep hO158.1
              refine Ends.callV Xq hx hZ hown (hw _ (List.mem_of_getElem? (i := 34) rfl)) (hw _ (List.mem_of_getElem? (i := 35) rfl)) (hw _ (List.mem_of_getElem? (i := 37) rfl)) (hw _ (List.mem_of_getElem? (i := 36) rfl)) (hw _ (List.mem_of_getElem? (i := 11) rfl)) (hw _ (List.mem_of_getElem? (i := 38) rfl)) (by decide) (argsL := [(.int tq), (.int pq)]) (rest := []) eq_ f173 (rmF1 l Z a0 hw b136 tq pq b130 b131 tB p0 T158.heap hFt158 hFp158 f167 f172) (W := 0) (by decide) (by decide) (by rw [hml]; rfl) (lenOf pd_1 rfl) (Nat.le_of_eq rfl) (hb hby at_538) (by decide) (by decide) rfl ?_
              rintro T174 v174 L174 X174 ⟨rfl, e174, rfl⟩
              rw [List.append_nil] at X174
              show Ends p e below s _ _ _ T174 (mkF m 541 #[.val (.int vx), .val (.int vy), .val (.long vh), .second, .val (.int vs), .val (.int vt), .val (.int vp), .val (.int tB), .val (.int pB), .val (.int dp0), .val (.int dt1), .val (.int dp1), .val (.int dt2), .val (.int dp2), .val (.int dt3), .val (.int dp3), .val (.int tB), .val (.int p0), .val (.int t1), .val (.int p1), .val (.int t2), .val (.int p2), .val (.int t3), .val (.int p3), .val (.int (1 : Int32)), .val (.ref b130), .val (.ref b131), .val (.ref b136), .val (.int tq), .val (.int pq), s30, .val (.int (if tq = tB ∧ pq = p0 then (0 : Int32) else (-1 : Int32))), s32, s33, s34] [(.int (if tq = tB ∧ pq = p0 then (0 : Int32) else (-1 : Int32)))])
              refine E.iload (q := 543) X174 hx (hb hby at_541) rfl ?_
              refine E.icmpN (q := 546) X174 hx (hb hby at_543) (XT.ii_ne_f rfl) ?_
              refine E.iconst (q := 547) (v := (1 : Int32)) X174 hx (hb hby at_546) rfl ?_
              refine E.goto (q := 551) X174 hx (hb hby at_547) ?_
              exact Ends.retS X174 hx hlk hret (by simp) rfl (hb hby at_551) (by decide) (by decide) ⟨rfl, Op159.fr⟩
            by_cases ha0 : tq = tB
            · refine E.icmpN (q := 453) Xq hx (hb hby at_450) (XT.ii_ne_f ha0) ?_
              refine E.iload (q := 455) Xq hx (hb hby at_453) rfl ?_
              refine E.iload (q := 457) Xq hx (hb hby at_455) rfl ?_
              by_cases hbb0 : pq = p0
              · refine E.icmpN (q := 460) Xq hx (hb hby at_457) (XT.ii_ne_f hbb0) ?_
                refine E.iconst (q := 461) (v := (0 : Int32)) Xq hx (hb hby at_460) rfl ?_
                refine E.istore (q := 463) (l' := #[.val (.int vx), .val (.int vy), .val (.long vh), .second, .val (.int vs), .val (.int vt), .val (.int vp), .val (.int tB), .val (.int pB), .val (.int dp0), .val (.int dt1), .val (.int dp1), .val (.int dt2), .val (.int dp2), .val (.int dt3), .val (.int dp3), .val (.int tB), .val (.int p0), .val (.int t1), .val (.int p1), .val (.int t2), .val (.int p2), .val (.int t3), .val (.int p3), .val (.int (1 : Int32)), .val (.ref b130), .val (.ref b131), .val (.ref b136), .val (.int tq), .val (.int pq), s30, .val (.int (0 : Int32)), s32, s33, s34]) Xq hx (hb hby at_461) rfl ?_
                rw [show (if tq = tB ∧ pq = p0 then (0 : Int32) else (-1 : Int32)) = (0 : Int32) from if_pos ⟨ha0, hbb0⟩] at JE0
                exact JE0
              · refine E.icmpY (q := 463) Xq hx (hb hby at_457) (XT.ii_ne_t hbb0) ?_
                rw [show (if tq = tB ∧ pq = p0 then (0 : Int32) else (-1 : Int32)) = (-1 : Int32) from if_neg (fun q => hbb0 q.2)] at JE0
                exact JE0
            · refine E.icmpY (q := 463) Xq hx (hb hby at_450) (XT.ii_ne_t ha0) ?_
              rw [show (if tq = tB ∧ pq = p0 then (0 : Int32) else (-1 : Int32)) = (-1 : Int32) from if_neg (fun q => ha0 q.1)] at JE0
              exact JE0
          by_cases hm335 : (((vs.toUInt32 >>> ((3 : Int32) &&& 31).toUInt32).toInt32) &&& (3 : Int32)) = (0 : Int32)
          · refine E.ifY (q := 438) Xp159 hx (hb hby at_335) (XT.i0_eq_t hm335) ?_
            exact JQ _ _ _ _ _ _ _ _ Xp159 e158 (Or.inl rfl)
          · refine E.ifN (q := 338) Xp159 hx (hb hby at_335) (XT.i0_eq_f hm335) ?_
            refine E.iload (q := 340) Xp159 hx (hb hby at_338) rfl ?_
            refine E.iconst (q := 341) (v := (5 : Int32)) Xp159 hx (hb hby at_340) rfl ?_
            refine E.iushr (q := 342) Xp159 hx (hb hby at_341) ?_
            refine E.iconst (q := 343) (v := (3 : Int32)) Xp159 hx (hb hby at_342) rfl ?_
            refine E.iand (q := 344) Xp159 hx (hb hby at_343) ?_
            refine E.iload (q := 346) Xp159 hx (hb hby at_344) rfl ?_
            refine E.irem (q := 347) Xp159 hx (hb hby at_346) (by decide) ?_
            refine E.istore (q := 349) (l' := #[.val (.int vx), .val (.int vy), .val (.long vh), .second, .val (.int vs), .val (.int vt), .val (.int vp), .val (.int tB), .val (.int pB), .val (.int dp0), .val (.int dt1), .val (.int dp1), .val (.int dt2), .val (.int dp2), .val (.int dt3), .val (.int dp3), .val (.int tB), .val (.int p0), .val (.int t1), .val (.int p1), .val (.int t2), .val (.int p2), .val (.int t3), .val (.int p3), .val (.int (1 : Int32)), .val (.ref b130), .val (.ref b131), .val (.ref b136), .val (.int vt), .val (.int vp), .val (.int (((vs.toUInt32 >>> ((3 : Int32) &&& 31).toUInt32).toInt32) &&& (3 : Int32))), .val (.int ((((vs.toUInt32 >>> ((5 : Int32) &&& 31).toUInt32).toInt32) &&& (3 : Int32)) % (1 : Int32))), .unset, .unset, .unset]) Xp159 hx (hb hby at_347) rfl ?_
            refine E.iload (q := 351) Xp159 hx (hb hby at_349) rfl ?_
            refine E.iload (q := 353) Xp159 hx (hb hby at_351) rfl ?_
            refine E.iload (q := 355) Xp159 hx (hb hby at_353) rfl ?_
            refine E.iload (q := 357) Xp159 hx (hb hby at_355) rfl ?_
            refine E.iload (q := 359) Xp159 hx (hb hby at_357) rfl ?_
            refine Ends.callS Xp159 hx hZ hown (hw _ (List.mem_of_getElem? (i := 39) rfl)) (hw _ (List.mem_of_getElem? (i := 40) rfl)) (hw _ (List.mem_of_getElem? (i := 41) rfl)) (hw _ (List.mem_of_getElem? (i := 42) rfl)) (by decide) (argsL := [(.int ((((vs.toUInt32 >>> ((5 : Int32) &&& 31).toUInt32).toInt32) &&& (3 : Int32)) % (1 : Int32))), (.int tB), (.int t1), (.int t2), (.int t3)]) (rest := []) e158 (rm6 l Z a0 hw ((((vs.toUInt32 >>> ((5 : Int32) &&& 31).toUInt32).toInt32) &&& (3 : Int32)) % (1 : Int32)) tB t1 t2 t3 T158.heap) (W := 0) (by decide) (by decide) (by rw [hml]; rfl) (lenOf pd_3 rfl) (Nat.le_of_eq rfl) (hb hby at_359) (by decide) (by decide) rfl ?_
            rintro T160 v160 L160 X160 ⟨z160, rfl, e160, rfl⟩
            rw [List.append_nil] at X160
            show Ends p e below s _ _ _ T160 (mkF m 362 #[.val (.int vx), .val (.int vy), .val (.long vh), .second, .val (.int vs), .val (.int vt), .val (.int vp), .val (.int tB), .val (.int pB), .val (.int dp0), .val (.int dt1), .val (.int dp1), .val (.int dt2), .val (.int dp2), .val (.int dt3), .val (.int dp3), .val (.int tB), .val (.int p0), .val (.int t1), .val (.int p1), .val (.int t2), .val (.int p2), .val (.int t3), .val (.int p3), .val (.int (1 : Int32)), .val (.ref b130), .val (.ref b131), .val (.ref b136), .val (.int vt), .val (.int vp), .val (.int (((vs.toUInt32 >>> ((3 : Int32) &&& 31).toUInt32).toInt32) &&& (3 : Int32))), .val (.int ((((vs.toUInt32 >>> ((5 : Int32) &&& 31).toUInt32).toInt32) &&& (3 : Int32)) % (1 : Int32))), .unset, .unset, .unset] [(.int z160)])
            refine E.istore (q := 364) (l' := #[.val (.int vx), .val (.int vy), .val (.long vh), .second, .val (.int vs), .val (.int vt), .val (.int vp), .val (.int tB), .val (.int pB), .val (.int dp0), .val (.int dt1), .val (.int dp1), .val (.int dt2), .val (.int dp2), .val (.int dt3), .val (.int dp3), .val (.int tB), .val (.int p0), .val (.int t1), .val (.int p1), .val (.int t2), .val (.int p2), .val (.int t3), .val (.int p3), .val (.int (1 : Int32)), .val (.ref b130), .val (.ref b131), .val (.ref b136), .val (.int vt), .val (.int vp), .val (.int (((vs.toUInt32 >>> ((3 : Int32) &&& 31).toUInt32).toInt32) &&& (3 : Int32))), .val (.int ((((vs.toUInt32 >>> ((5 : Int32) &&& 31).toUInt32).toInt32) &&& (3 : Int32)) % (1 : Int32))), .val (.int z160), .unset, .unset]) X160 hx (hb hby at_362) rfl ?_
            refine E.iload (q := 366) X160 hx (hb hby at_364) rfl ?_
            refine E.iload (q := 368) X160 hx (hb hby at_366) rfl ?_
            refine E.iload (q := 370) X160 hx (hb hby at_368) rfl ?_
            refine E.iload (q := 372) X160 hx (hb hby at_370) rfl ?_
            refine E.iload (q := 374) X160 hx (hb hby at_372) rfl ?_
            refine Ends.callS X160 hx hZ hown (hw _ (List.mem_of_getElem? (i := 39) rfl)) (hw _ (List.mem_of_getElem? (i := 40) rfl)) (hw _ (List.mem_of_getElem? (i := 41) rfl)) (hw _ (List.mem_of_getElem? (i := 42) rfl)) (by decide) (argsL := [(.int ((((vs.toUInt32 >>> ((5 : Int32) &&& 31).toUInt32).toInt32) &&& (3 : Int32)) % (1 : Int32))), (.int p0), (.int p1), (.int p2), (.int p3)]) (rest := []) e160 (rm6 l Z a0 hw ((((vs.toUInt32 >>> ((5 : Int32) &&& 31).toUInt32).toInt32) &&& (3 : Int32)) % (1 : Int32)) p0 p1 p2 p3 T158.heap) (W := 0) (by decide) (by decide) (by rw [hml]; rfl) (lenOf pd_3 rfl) (Nat.le_of_eq rfl) (hb hby at_374) (by decide) (by decide) rfl ?_
            rintro T161 v161 L161 X161 ⟨z161, rfl, e161, rfl⟩
            rw [List.append_nil] at X161
            show Ends p e below s _ _ _ T161 (mkF m 377 #[.val (.int vx), .val (.int vy), .val (.long vh), .second, .val (.int vs), .val (.int vt), .val (.int vp), .val (.int tB), .val (.int pB), .val (.int dp0), .val (.int dt1), .val (.int dp1), .val (.int dt2), .val (.int dp2), .val (.int dt3), .val (.int dp3), .val (.int tB), .val (.int p0), .val (.int t1), .val (.int p1), .val (.int t2), .val (.int p2), .val (.int t3), .val (.int p3), .val (.int (1 : Int32)), .val (.ref b130), .val (.ref b131), .val (.ref b136), .val (.int vt), .val (.int vp), .val (.int (((vs.toUInt32 >>> ((3 : Int32) &&& 31).toUInt32).toInt32) &&& (3 : Int32))), .val (.int ((((vs.toUInt32 >>> ((5 : Int32) &&& 31).toUInt32).toInt32) &&& (3 : Int32)) % (1 : Int32))), .val (.int z160), .unset, .unset] [(.int z161)])
            refine E.istore (q := 379) (l' := #[.val (.int vx), .val (.int vy), .val (.long vh), .second, .val (.int vs), .val (.int vt), .val (.int vp), .val (.int tB), .val (.int pB), .val (.int dp0), .val (.int dt1), .val (.int dp1), .val (.int dt2), .val (.int dp2), .val (.int dt3), .val (.int dp3), .val (.int tB), .val (.int p0), .val (.int t1), .val (.int p1), .val (.int t2), .val (.int p2), .val (.int t3), .val (.int p3), .val (.int (1 : Int32)), .val (.ref b130), .val (.ref b131), .val (.ref b136), .val (.int vt), .val (.int vp), .val (.int (((vs.toUInt32 >>> ((3 : Int32) &&& 31).toUInt32).toInt32) &&& (3 : Int32))), .val (.int ((((vs.toUInt32 >>> ((5 : Int32) &&& 31).toUInt32).toInt32) &&& (3 : Int32)) % (1 : Int32))), .val (.int z160), .val (.int z161), .unset]) X161 hx (hb hby at_377) rfl ?_
            refine E.iload (q := 381) X161 hx (hb hby at_379) rfl ?_
            refine E.ldc (q := 383) X161 hx hZ hown (hw _ (List.mem_of_getElem? (i := 0) rfl)) (hb hby at_381) ?_
            refine E.iand (q := 384) X161 hx (hb hby at_383) ?_
            refine E.iconst (q := 385) (v := (3 : Int32)) X161 hx (hb hby at_384) rfl ?_
            refine E.irem (q := 386) X161 hx (hb hby at_385) (by decide) ?_
            refine E.iconst (q := 387) (v := (1 : Int32)) X161 hx (hb hby at_386) rfl ?_
            refine E.isub (q := 388) X161 hx (hb hby at_387) ?_
            refine E.istore (q := 390) (l' := #[.val (.int vx), .val (.int vy), .val (.long vh), .second, .val (.int vs), .val (.int vt), .val (.int vp), .val (.int tB), .val (.int pB), .val (.int dp0), .val (.int dt1), .val (.int dp1), .val (.int dt2), .val (.int dp2), .val (.int dt3), .val (.int dp3), .val (.int tB), .val (.int p0), .val (.int t1), .val (.int p1), .val (.int t2), .val (.int p2), .val (.int t3), .val (.int p3), .val (.int (1 : Int32)), .val (.ref b130), .val (.ref b131), .val (.ref b136), .val (.int vt), .val (.int vp), .val (.int (((vs.toUInt32 >>> ((3 : Int32) &&& 31).toUInt32).toInt32) &&& (3 : Int32))), .val (.int ((((vs.toUInt32 >>> ((5 : Int32) &&& 31).toUInt32).toInt32) &&& (3 : Int32)) % (1 : Int32))), .val (.int z160), .val (.int z161), .val (.int (((vp &&& (2147483647 : Int32)) % (3 : Int32)) - (1 : Int32)))]) X161 hx (hb hby at_388) rfl ?_
            refine E.iload (q := 392) X161 hx (hb hby at_390) rfl ?_
            refine E.iconst (q := 393) (v := (1 : Int32)) X161 hx (hb hby at_392) rfl ?_
            by_cases hm393 : (((vs.toUInt32 >>> ((3 : Int32) &&& 31).toUInt32).toInt32) &&& (3 : Int32)) = (1 : Int32)
            · refine E.icmpN (q := 396) X161 hx (hb hby at_393) (XT.ii_ne_f hm393) ?_
              refine E.iload (q := 398) X161 hx (hb hby at_396) rfl ?_
              refine E.istore (q := 400) (l' := #[.val (.int vx), .val (.int vy), .val (.long vh), .second, .val (.int vs), .val (.int vt), .val (.int vp), .val (.int tB), .val (.int pB), .val (.int dp0), .val (.int dt1), .val (.int dp1), .val (.int dt2), .val (.int dp2), .val (.int dt3), .val (.int dp3), .val (.int tB), .val (.int p0), .val (.int t1), .val (.int p1), .val (.int t2), .val (.int p2), .val (.int t3), .val (.int p3), .val (.int (1 : Int32)), .val (.ref b130), .val (.ref b131), .val (.ref b136), .val (.int z160), .val (.int vp), .val (.int (((vs.toUInt32 >>> ((3 : Int32) &&& 31).toUInt32).toInt32) &&& (3 : Int32))), .val (.int ((((vs.toUInt32 >>> ((5 : Int32) &&& 31).toUInt32).toInt32) &&& (3 : Int32)) % (1 : Int32))), .val (.int z160), .val (.int z161), .val (.int (((vp &&& (2147483647 : Int32)) % (3 : Int32)) - (1 : Int32)))]) X161 hx (hb hby at_398) rfl ?_
              refine E.iload (q := 402) X161 hx (hb hby at_400) rfl ?_
              refine E.istore (q := 404) (l' := #[.val (.int vx), .val (.int vy), .val (.long vh), .second, .val (.int vs), .val (.int vt), .val (.int vp), .val (.int tB), .val (.int pB), .val (.int dp0), .val (.int dt1), .val (.int dp1), .val (.int dt2), .val (.int dp2), .val (.int dt3), .val (.int dp3), .val (.int tB), .val (.int p0), .val (.int t1), .val (.int p1), .val (.int t2), .val (.int p2), .val (.int t3), .val (.int p3), .val (.int (1 : Int32)), .val (.ref b130), .val (.ref b131), .val (.ref b136), .val (.int z160), .val (.int z161), .val (.int (((vs.toUInt32 >>> ((3 : Int32) &&& 31).toUInt32).toInt32) &&& (3 : Int32))), .val (.int ((((vs.toUInt32 >>> ((5 : Int32) &&& 31).toUInt32).toInt32) &&& (3 : Int32)) % (1 : Int32))), .val (.int z160), .val (.int z161), .val (.int (((vp &&& (2147483647 : Int32)) % (3 : Int32)) - (1 : Int32)))]) X161 hx (hb hby at_402) rfl ?_
              refine E.goto (q := 438) X161 hx (hb hby at_404) ?_
              exact JQ _ _ _ _ _ _ _ _ X161 e161 (Or.inr ⟨_, rfl, rfl⟩)
            · refine E.icmpY (q := 407) X161 hx (hb hby at_393) (XT.ii_ne_t hm393) ?_
              refine E.iload (q := 409) X161 hx (hb hby at_407) rfl ?_
              refine E.iconst (q := 410) (v := (2 : Int32)) X161 hx (hb hby at_409) rfl ?_
              by_cases hm410 : (((vs.toUInt32 >>> ((3 : Int32) &&& 31).toUInt32).toInt32) &&& (3 : Int32)) = (2 : Int32)
              · refine E.icmpN (q := 413) X161 hx (hb hby at_410) (XT.ii_ne_f hm410) ?_
                refine E.iload (q := 415) X161 hx (hb hby at_413) rfl ?_
                refine E.istore (q := 417) (l' := #[.val (.int vx), .val (.int vy), .val (.long vh), .second, .val (.int vs), .val (.int vt), .val (.int vp), .val (.int tB), .val (.int pB), .val (.int dp0), .val (.int dt1), .val (.int dp1), .val (.int dt2), .val (.int dp2), .val (.int dt3), .val (.int dp3), .val (.int tB), .val (.int p0), .val (.int t1), .val (.int p1), .val (.int t2), .val (.int p2), .val (.int t3), .val (.int p3), .val (.int (1 : Int32)), .val (.ref b130), .val (.ref b131), .val (.ref b136), .val (.int z160), .val (.int vp), .val (.int (((vs.toUInt32 >>> ((3 : Int32) &&& 31).toUInt32).toInt32) &&& (3 : Int32))), .val (.int ((((vs.toUInt32 >>> ((5 : Int32) &&& 31).toUInt32).toInt32) &&& (3 : Int32)) % (1 : Int32))), .val (.int z160), .val (.int z161), .val (.int (((vp &&& (2147483647 : Int32)) % (3 : Int32)) - (1 : Int32)))]) X161 hx (hb hby at_415) rfl ?_
                refine E.iload (q := 419) X161 hx (hb hby at_417) rfl ?_
                refine E.iload (q := 421) X161 hx (hb hby at_419) rfl ?_
                refine E.iadd (q := 422) X161 hx (hb hby at_421) ?_
                refine E.istore (q := 424) (l' := #[.val (.int vx), .val (.int vy), .val (.long vh), .second, .val (.int vs), .val (.int vt), .val (.int vp), .val (.int tB), .val (.int pB), .val (.int dp0), .val (.int dt1), .val (.int dp1), .val (.int dt2), .val (.int dp2), .val (.int dt3), .val (.int dp3), .val (.int tB), .val (.int p0), .val (.int t1), .val (.int p1), .val (.int t2), .val (.int p2), .val (.int t3), .val (.int p3), .val (.int (1 : Int32)), .val (.ref b130), .val (.ref b131), .val (.ref b136), .val (.int z160), .val (.int (z161 + (((vp &&& (2147483647 : Int32)) % (3 : Int32)) - (1 : Int32)))), .val (.int (((vs.toUInt32 >>> ((3 : Int32) &&& 31).toUInt32).toInt32) &&& (3 : Int32))), .val (.int ((((vs.toUInt32 >>> ((5 : Int32) &&& 31).toUInt32).toInt32) &&& (3 : Int32)) % (1 : Int32))), .val (.int z160), .val (.int z161), .val (.int (((vp &&& (2147483647 : Int32)) % (3 : Int32)) - (1 : Int32)))]) X161 hx (hb hby at_422) rfl ?_
                refine E.goto (q := 438) X161 hx (hb hby at_424) ?_
                exact JQ _ _ _ _ _ _ _ _ X161 e161 (Or.inr ⟨_, rfl, rfl⟩)
              · refine E.icmpY (q := 427) X161 hx (hb hby at_410) (XT.ii_ne_t hm410) ?_
                refine E.iload (q := 429) X161 hx (hb hby at_427) rfl ?_
                refine E.iload (q := 431) X161 hx (hb hby at_429) rfl ?_
                refine E.iadd (q := 432) X161 hx (hb hby at_431) ?_
                refine E.istore (q := 434) (l' := #[.val (.int vx), .val (.int vy), .val (.long vh), .second, .val (.int vs), .val (.int vt), .val (.int vp), .val (.int tB), .val (.int pB), .val (.int dp0), .val (.int dt1), .val (.int dp1), .val (.int dt2), .val (.int dp2), .val (.int dt3), .val (.int dp3), .val (.int tB), .val (.int p0), .val (.int t1), .val (.int p1), .val (.int t2), .val (.int p2), .val (.int t3), .val (.int p3), .val (.int (1 : Int32)), .val (.ref b130), .val (.ref b131), .val (.ref b136), .val (.int (z160 + (((vp &&& (2147483647 : Int32)) % (3 : Int32)) - (1 : Int32)))), .val (.int vp), .val (.int (((vs.toUInt32 >>> ((3 : Int32) &&& 31).toUInt32).toInt32) &&& (3 : Int32))), .val (.int ((((vs.toUInt32 >>> ((5 : Int32) &&& 31).toUInt32).toInt32) &&& (3 : Int32)) % (1 : Int32))), .val (.int z160), .val (.int z161), .val (.int (((vp &&& (2147483647 : Int32)) % (3 : Int32)) - (1 : Int32)))]) X161 hx (hb hby at_432) rfl ?_
                refine E.iload (q := 436) X161 hx (hb hby at_434) rfl ?_
                refine E.istore (q := 438) (l' := #[.val (.int vx), .val (.int vy), .val (.long vh), .second, .val (.int vs), .val (.int vt), .val (.int vp), .val (.int tB), .val (.int pB), .val (.int dp0), .val (.int dt1), .val (.int dp1), .val (.int dt2), .val (.int dp2), .val (.int dt3), .val (.int dp3), .val (.int tB), .val (.int p0), .val (.int t1), .val (.int p1), .val (.int t2), .val (.int p2), .val (.int t3), .val (.int p3), .val (.int (1 : Int32)), .val (.ref b130), .val (.ref b131), .val (.ref b136), .val (.int (z160 + (((vp &&& (2147483647 : Int32)) % (3 : Int32)) - (1 : Int32)))), .val (.int z161), .val (.int (((vs.toUInt32 >>> ((3 : Int32) &&& 31).toUInt32).toInt32) &&& (3 : Int32))), .val (.int ((((vs.toUInt32 >>> ((5 : Int32) &&& 31).toUInt32).toInt32) &&& (3 : Int32)) % (1 : Int32))), .val (.int z160), .val (.int z161), .val (.int (((vp &&& (2147483647 : Int32)) % (3 : Int32)) - (1 : Int32)))]) X161 hx (hb hby at_436) rfl ?_
                exact JQ _ _ _ _ _ _ _ _ X161 e161 (Or.inr ⟨_, rfl, rfl⟩)
        · subst hn
          show Ends p e below s _ _ _ T90 (mkF m 202 #[.val (.int vx), .val (.int vy), .val (.long vh), .second, .val (.int vs), .val (.int vt), .val (.int vp), .val (.int tB), .val (.int pB), .val (.int dp0), .val (.int dt1), .val (.int dp1), .val (.int dt2), .val (.int dp2), .val (.int dt3), .val (.int dp3), .val (.int tB), .val (.int p0), .val (.int t1), .val (.int p1), .val (.int t2), .val (.int p2), .val (.int t3), .val (.int p3), .unset, .unset, .unset, .unset, .unset, .unset, .unset, .unset, .unset, .unset, .unset] [(.int (2 : Int32))])
          refine E.istore (q := 204) (l' := #[.val (.int vx), .val (.int vy), .val (.long vh), .second, .val (.int vs), .val (.int vt), .val (.int vp), .val (.int tB), .val (.int pB), .val (.int dp0), .val (.int dt1), .val (.int dp1), .val (.int dt2), .val (.int dp2), .val (.int dt3), .val (.int dp3), .val (.int tB), .val (.int p0), .val (.int t1), .val (.int p1), .val (.int t2), .val (.int p2), .val (.int t3), .val (.int p3), .val (.int (2 : Int32)), .unset, .unset, .unset, .unset, .unset, .unset, .unset, .unset, .unset, .unset]) X90 hx (hb hby at_202) rfl ?_
          refine E.iload (q := 206) X90 hx (hb hby at_204) rfl ?_
          refine Ends.newA X90 hx hZ (hw _ (List.mem_of_getElem? (i := 8) rfl)) e90 (hb hby at_206) (N := 2) rfl (by decide) (by decide) (by decide) ?_
          intro T175 h175 b175 g175 X175 e175 E175 A175
          have ge_b175 : h0.size ≤ b175 := Nat.le_trans O0.le (Nat.le_of_eq g175.symm)
          have O175 := O0.ext E175
          have V175 : Ary Z h175 b175 .int [(.int (0 : Int32)), (.int (0 : Int32))] := A175
          refine E.astore (q := 210) (l' := #[.val (.int vx), .val (.int vy), .val (.long vh), .second, .val (.int vs), .val (.int vt), .val (.int vp), .val (.int tB), .val (.int pB), .val (.int dp0), .val (.int dt1), .val (.int dp1), .val (.int dt2), .val (.int dp2), .val (.int dt3), .val (.int dp3), .val (.int tB), .val (.int p0), .val (.int t1), .val (.int p1), .val (.int t2), .val (.int p2), .val (.int t3), .val (.int p3), .val (.int (2 : Int32)), .val (.ref b175), .unset, .unset, .unset, .unset, .unset, .unset, .unset, .unset, .unset]) X175 hx (hb hby at_208) rfl rfl ?_
          refine E.iload (q := 212) X175 hx (hb hby at_210) rfl ?_
          refine Ends.newA X175 hx hZ (hw _ (List.mem_of_getElem? (i := 8) rfl)) e175 (hb hby at_212) (N := 2) rfl (by decide) (by decide) (by decide) ?_
          intro T176 h176 b176 g176 X176 e176 E176 A176
          have ge_b176 : h0.size ≤ b176 := Nat.le_trans O175.le (Nat.le_of_eq g176.symm)
          have O176 := O175.ext E176
          have V176 : Ary Z h176 b176 .int [(.int (0 : Int32)), (.int (0 : Int32))] := A176
          refine E.astore (q := 216) (l' := #[.val (.int vx), .val (.int vy), .val (.long vh), .second, .val (.int vs), .val (.int vt), .val (.int vp), .val (.int tB), .val (.int pB), .val (.int dp0), .val (.int dt1), .val (.int dp1), .val (.int dt2), .val (.int dp2), .val (.int dt3), .val (.int dp3), .val (.int tB), .val (.int p0), .val (.int t1), .val (.int p1), .val (.int t2), .val (.int p2), .val (.int t3), .val (.int p3), .val (.int (2 : Int32)), .val (.ref b175), .val (.ref b176), .unset, .unset, .unset, .unset, .unset, .unset, .unset, .unset]) X176 hx (hb hby at_214) rfl rfl ?_
          refine E.iload (q := 218) X176 hx (hb hby at_216) rfl ?_
          refine E.ifN (q := 221) X176 hx (hb hby at_218) (XT.i0_le_f (by decide)) ?_
          refine E.aload (q := 223) X176 hx (hb hby at_221) rfl rfl ?_
          refine E.iconst (q := 224) (v := (0 : Int32)) X176 hx (hb hby at_223) rfl ?_
          refine E.iload (q := 226) X176 hx (hb hby at_224) rfl ?_
          have f177 := V175.ext E176
          refine Ends.ist X176 hx hZ e176 f177 (i := 0) rfl (show 0 < 2 from by decide) (hb hby at_226) ?_
          intro T178 h178 X178 e178 W178 V178
          have V178 : Ary Z h178 b175 .int [(.int tB), (.int (0 : Int32))] := V178
          have O178 := O176.wr W178 (Or.inr ge_b175)
          refine E.aload (q := 229) X178 hx (hb hby at_227) rfl rfl ?_
          refine E.iconst (q := 230) (v := (0 : Int32)) X178 hx (hb hby at_229) rfl ?_
          refine E.iload (q := 232) X178 hx (hb hby at_230) rfl ?_
          have f179 := V176.other W178 (Ne.symm (Nat.ne_of_lt (Nat.lt_of_lt_of_eq V175.lt g176.symm)))
          refine Ends.ist X178 hx hZ e178 f179 (i := 0) rfl (show 0 < 2 from by decide) (hb hby at_232) ?_
          intro T180 h180 X180 e180 W180 V180
          have V180 : Ary Z h180 b176 .int [(.int p0), (.int (0 : Int32))] := V180
          have O180 := O178.wr W180 (Or.inr ge_b176)
          refine E.iload (q := 235) X180 hx (hb hby at_233) rfl ?_
          refine E.iconst (q := 236) (v := (1 : Int32)) X180 hx (hb hby at_235) rfl ?_
          refine E.icmpN (q := 239) X180 hx (hb hby at_236) (XT.ii_le_f (by decide)) ?_
          refine E.aload (q := 241) X180 hx (hb hby at_239) rfl rfl ?_
          refine E.iconst (q := 242) (v := (1 : Int32)) X180 hx (hb hby at_241) rfl ?_
          refine E.iload (q := 244) X180 hx (hb hby at_242) rfl ?_
          have f181 := V178.other W180 (Nat.ne_of_lt (Nat.lt_of_lt_of_eq V175.lt g176.symm))
          refine Ends.ist X180 hx hZ e180 f181 (i := 1) rfl (show 1 < 2 from by decide) (hb hby at_244) ?_
          intro T182 h182 X182 e182 W182 V182
          have V182 : Ary Z h182 b175 .int [(.int tB), (.int t1)] := V182
          have O182 := O180.wr W182 (Or.inr ge_b175)
          refine E.aload (q := 247) X182 hx (hb hby at_245) rfl rfl ?_
          refine E.iconst (q := 248) (v := (1 : Int32)) X182 hx (hb hby at_247) rfl ?_
          refine E.iload (q := 250) X182 hx (hb hby at_248) rfl ?_
          have f183 := V180.other W182 (Ne.symm (Nat.ne_of_lt (Nat.lt_of_lt_of_eq V175.lt g176.symm)))
          refine Ends.ist X182 hx hZ e182 f183 (i := 1) rfl (show 1 < 2 from by decide) (hb hby at_250) ?_
          intro T184 h184 X184 e184 W184 V184
          have V184 : Ary Z h184 b176 .int [(.int p0), (.int p1)] := V184
          have O184 := O182.wr W184 (Or.inr ge_b176)
          refine E.iload (q := 253) X184 hx (hb hby at_251) rfl ?_
          refine E.iconst (q := 254) (v := (2 : Int32)) X184 hx (hb hby at_253) rfl ?_
          refine E.icmpY (q := 269) X184 hx (hb hby at_254) (XT.ii_le_t (by decide)) ?_
          refine E.iload (q := 271) X184 hx (hb hby at_269) rfl ?_
          refine E.iconst (q := 272) (v := (3 : Int32)) X184 hx (hb hby at_271) rfl ?_
          refine E.icmpY (q := 287) X184 hx (hb hby at_272) (XT.ii_le_t (by decide)) ?_
          refine Ends.newC X184 hx hZ hown (hw _ (List.mem_of_getElem? (i := 9) rfl)) (hw _ (List.mem_of_getElem? (i := 10) rfl)) (hw _ (List.mem_of_getElem? (i := 11) rfl)) e184 (hb hby at_287) (by decide) (by decide) ?_
          intro T185 h185 b185 g185 X185 e185 E185 A185 D185
          have ge_b185 : h0.size ≤ b185 := Nat.le_trans O184.le (Nat.le_of_eq g185.symm)
          have O185 := O184.ext E185
          have F185_trips : Fld Z h185 b185 "com/example/hourline/hourline/network/Timetable$Calls" "trips" "[I" .null := D185 (Or.inr (hw _ (List.mem_of_getElem? (i := 25) rfl))) (ty := (.array .int)) (by decide)
          have F185_positions : Fld Z h185 b185 "com/example/hourline/hourline/network/Timetable$Calls" "positions" "[I" .null := D185 (Or.inr (hw _ (List.mem_of_getElem? (i := 27) rfl))) (ty := (.array .int)) (by decide)
          have F185_arrivals : Fld Z h185 b185 "com/example/hourline/hourline/network/Timetable$Calls" "arrivals" "[I" .null := D185 (Or.inr (hw _ (List.mem_of_getElem? (i := 29) rfl))) (ty := (.array .int)) (by decide)
          have F185_departures : Fld Z h185 b185 "com/example/hourline/hourline/network/Timetable$Calls" "departures" "[I" .null := D185 (Or.inr (hw _ (List.mem_of_getElem? (i := 31) rfl))) (ty := (.array .int)) (by decide)
          have F185_kinds : Fld Z h185 b185 "com/example/hourline/hourline/network/Timetable$Calls" "kinds" "[B" .null := D185 (Or.inr (hw _ (List.mem_of_getElem? (i := 33) rfl))) (ty := (.array .byte)) (by decide)
          refine E.dup (q := 291) X185 hx (hb hby at_290) rfl ?_
          refine E.aload (q := 293) X185 hx (hb hby at_291) rfl rfl ?_
          refine E.aload (q := 295) X185 hx (hb hby at_293) rfl rfl ?_
          refine E.iload (q := 297) X185 hx (hb hby at_295) rfl ?_
          refine Ends.newA X185 hx hZ (hw _ (List.mem_of_getElem? (i := 8) rfl)) e185 (hb hby at_297) (N := 2) rfl (by decide) (by decide) (by decide) ?_
          intro T186 h186 b186 g186 X186 e186 E186 A186
          have ge_b186 : h0.size ≤ b186 := Nat.le_trans O185.le (Nat.le_of_eq g186.symm)
          have O186 := O185.ext E186
          have V186 : Ary Z h186 b186 .int [(.int (0 : Int32)), (.int (0 : Int32))] := A186
          refine E.iload (q := 301) X186 hx (hb hby at_299) rfl ?_
          refine Ends.newA X186 hx hZ (hw _ (List.mem_of_getElem? (i := 8) rfl)) e186 (hb hby at_301) (N := 2) rfl (by decide) (by decide) (by decide) ?_
          intro T187 h187 b187 g187 X187 e187 E187 A187
          have ge_b187 : h0.size ≤ b187 := Nat.le_trans O186.le (Nat.le_of_eq g187.symm)
          have O187 := O186.ext E187
          have V187 : Ary Z h187 b187 .int [(.int (0 : Int32)), (.int (0 : Int32))] := A187
          refine E.iload (q := 305) X187 hx (hb hby at_303) rfl ?_
          refine Ends.newA X187 hx hZ (hw _ (List.mem_of_getElem? (i := 12) rfl)) e187 (hb hby at_305) (N := 2) rfl (by decide) (by decide) (by decide) ?_
          intro T188 h188 b188 g188 X188 e188 E188 A188
          have ge_b188 : h0.size ≤ b188 := Nat.le_trans O187.le (Nat.le_of_eq g188.symm)
          have O188 := O187.ext E188
          have V188 : Ary Z h188 b188 .byte [(.int (0 : Int32)), (.int (0 : Int32))] := A188
          have f189 := A185.ext E186
          have f190 := f189.ext E187
          have f191 := f190.ext E188
          have f192 := F185_trips.ext E186
          have f193 := f192.ext E187
          have f194 := f193.ext E188
          have f195 := F185_positions.ext E186
          have f196 := f195.ext E187
          have f197 := f196.ext E188
          have f198 := F185_arrivals.ext E186
          have f199 := f198.ext E187
          have f200 := f199.ext E188
          have f201 := F185_departures.ext E186
          have f202 := f201.ext E187
          have f203 := f202.ext E188
          have f204 := F185_kinds.ext E186
          have f205 := f204.ext E187
          have f206 := f205.ext E188
          refine Ends.callI X188 hx hZ hown (hw _ (List.mem_of_getElem? (i := 13) rfl)) (hw _ (List.mem_of_getElem? (i := 14) rfl)) (hw _ (List.mem_of_getElem? (i := 11) rfl)) (hw _ (List.mem_of_getElem? (i := 15) rfl)) rfl (by decide) (argsL := [(.ref b175), (.ref b176), (.ref b186), (.ref b187), (.ref b188)]) (rest := [(.ref b185)]) e188 (rm2 l Z a0 hw b185 b175 b176 b186 b187 b188 h188 f191 f194 f197 f200 f203 f206) (W := 1) (by decide) (by decide) (by rw [hml]; rfl) (lenOf pd_2 rfl) (Nat.le_of_eq rfl) (hb hby at_307) (by decide) (by decide) rfl ?_
          rintro T207 v207 L207 X207 ⟨rfl, hO207, hFt207, hFp207⟩
          have e207 : T207.heap = T207.heap := rfl
          have O207 := O188.call hO207 (allS (Or.inr ge_b185) all0)
          show Ends p e below s _ _ _ T207 (mkF m 310 #[.val (.int vx), .val (.int vy), .val (.long vh), .second, .val (.int vs), .val (.int vt), .val (.int vp), .val (.int tB), .val (.int pB), .val (.int dp0), .val (.int dt1), .val (.int dp1), .val (.int dt2), .val (.int dp2), .val (.int dt3), .val (.int dp3), .val (.int tB), .val (.int p0), .val (.int t1), .val (.int p1), .val (.int t2), .val (.int p2), .val (.int t3), .val (.int p3), .val (.int (2 : Int32)), .val (.ref b175), .val (.ref b176), .unset, .unset, .unset, .unset, .unset, .unset, .unset, .unset] [(.ref b185)])
          refine E.astore (q := 312) (l' := #[.val (.int vx), .val (.int vy), .val (.long vh), .second, .val (.int vs), .val (.int vt), .val (.int vp), .val (.int tB), .val (.int pB), .val (.int dp0), .val (.int dt1), .val (.int dp1), .val (.int dt2), .val (.int dp2), .val (.int dt3), .val (.int dp3), .val (.int tB), .val (.int p0), .val (.int t1), .val (.int p1), .val (.int t2), .val (.int p2), .val (.int t3), .val (.int p3), .val (.int (2 : Int32)), .val (.ref b175), .val (.ref b176), .val (.ref b185), .unset, .unset, .unset, .unset, .unset, .unset, .unset]) X207 hx (hb hby at_310) rfl rfl ?_
          refine E.iload (q := 314) X207 hx (hb hby at_312) rfl ?_
          refine E.istore (q := 316) (l' := #[.val (.int vx), .val (.int vy), .val (.long vh), .second, .val (.int vs), .val (.int vt), .val (.int vp), .val (.int tB), .val (.int pB), .val (.int dp0), .val (.int dt1), .val (.int dp1), .val (.int dt2), .val (.int dp2), .val (.int dt3), .val (.int dp3), .val (.int tB), .val (.int p0), .val (.int t1), .val (.int p1), .val (.int t2), .val (.int p2), .val (.int t3), .val (.int p3), .val (.int (2 : Int32)), .val (.ref b175), .val (.ref b176), .val (.ref b185), .val (.int vt), .unset, .unset, .unset, .unset, .unset, .unset]) X207 hx (hb hby at_314) rfl ?_
          refine E.iload (q := 318) X207 hx (hb hby at_316) rfl ?_
          refine E.istore (q := 320) (l' := #[.val (.int vx), .val (.int vy), .val (.long vh), .second, .val (.int vs), .val (.int vt), .val (.int vp), .val (.int tB), .val (.int pB), .val (.int dp0), .val (.int dt1), .val (.int dp1), .val (.int dt2), .val (.int dp2), .val (.int dt3), .val (.int dp3), .val (.int tB), .val (.int p0), .val (.int t1), .val (.int p1), .val (.int t2), .val (.int p2), .val (.int t3), .val (.int p3), .val (.int (2 : Int32)), .val (.ref b175), .val (.ref b176), .val (.ref b185), .val (.int vt), .val (.int vp), .unset, .unset, .unset, .unset, .unset]) X207 hx (hb hby at_318) rfl ?_
          refine E.iload (q := 322) X207 hx (hb hby at_320) rfl ?_
          refine E.iconst (q := 323) (v := (3 : Int32)) X207 hx (hb hby at_322) rfl ?_
          refine E.iushr (q := 324) X207 hx (hb hby at_323) ?_
          refine E.iconst (q := 325) (v := (3 : Int32)) X207 hx (hb hby at_324) rfl ?_
          refine E.iand (q := 326) X207 hx (hb hby at_325) ?_
          refine E.istore (q := 328) (l' := #[.val (.int vx), .val (.int vy), .val (.long vh), .second, .val (.int vs), .val (.int vt), .val (.int vp), .val (.int tB), .val (.int pB), .val (.int dp0), .val (.int dt1), .val (.int dp1), .val (.int dt2), .val (.int dp2), .val (.int dt3), .val (.int dp3), .val (.int tB), .val (.int p0), .val (.int t1), .val (.int p1), .val (.int t2), .val (.int p2), .val (.int t3), .val (.int p3), .val (.int (2 : Int32)), .val (.ref b175), .val (.ref b176), .val (.ref b185), .val (.int vt), .val (.int vp), .val (.int (((vs.toUInt32 >>> ((3 : Int32) &&& 31).toUInt32).toInt32) &&& (3 : Int32))), .unset, .unset, .unset, .unset]) X207 hx (hb hby at_326) rfl ?_
          refine E.iload (q := 330) X207 hx (hb hby at_328) rfl ?_
          refine E.ifN (q := 333) X207 hx (hb hby at_330) (XT.i0_le_f (by decide)) ?_
          refine E.iload (q := 335) X207 hx (hb hby at_333) rfl ?_
          obtain ⟨lq208, cq208, sq208, Xp208, Op208, hcq208, hsq208⟩ : ∃ (lq : List Loc) (cq sq : Nat), Stand p l e room_1 s m #[(.int vx), (.int vy), (.long vh), (.int vs), (.int vt), (.int vp)] below meth c T207 lq cq sq ∧ Ok h0 T207.heap [] lq ∧ cq = 6 ∧ sq = 15 := ⟨_, _, _, X207, O207, rfl, rfl⟩
          subst hcq208 hsq208
          have JQ : ∀ (Tq : State) (tq pq : Int32) (s30 s31 s32 s33 s34 : Slot), Stand p l e room_1 s m #[(.int vx), (.int vy), (.long vh), (.int vs), (.int vt), (.int vp)] below meth c Tq lq208 6 15 → Tq.heap = T207.heap → (s31 = .unset ∨ ∃ w, s31 = .val w ∧ w.category = 1) → Ends p e below s (fun v h L => v = some (.int 1) ∧ Fr h0.size L) room_1.cells room_1.slots Tq (mkF m 438 #[.val (.int vx), .val (.int vy), .val (.long vh), .second, .val (.int vs), .val (.int vt), .val (.int vp), .val (.int tB), .val (.int pB), .val (.int dp0), .val (.int dt1), .val (.int dp1), .val (.int dt2), .val (.int dp2), .val (.int dt3), .val (.int dp3), .val (.int tB), .val (.int p0), .val (.int t1), .val (.int p1), .val (.int t2), .val (.int p2), .val (.int t3), .val (.int p3), .val (.int (2 : Int32)), .val (.ref b175), .val (.ref b176), .val (.ref b185), .val (.int tq), .val (.int pq), s30, s31, s32, s33, s34] []) := by
            intro Tq tq pq s30 s31 s32 s33 s34 Xq eq_ h31
            show Ends p e below s _ _ _ Tq (mkF m 438 #[.val (.int vx), .val (.int vy), .val (.long vh), .second, .val (.int vs), .val (.int vt), .val (.int vp), .val (.int tB), .val (.int pB), .val (.int dp0), .val (.int dt1), .val (.int dp1), .val (.int dt2), .val (.int dp2), .val (.int dt3), .val (.int dp3), .val (.int tB), .val (.int p0), .val (.int t1), .val (.int p1), .val (.int t2), .val (.int p2), .val (.int t3), .val (.int p3), .val (.int (2 : Int32)), .val (.ref b175), .val (.ref b176), .val (.ref b185), .val (.int tq), .val (.int pq), s30, s31, s32, s33, s34] [])
            refine E.iconst (q := 439) (v := (-1 : Int32)) Xq hx (hb hby at_438) rfl ?_
            refine E.istore (q := 441) (l' := #[.val (.int vx), .val (.int vy), .val (.long vh), .second, .val (.int vs), .val (.int vt), .val (.int vp), .val (.int tB), .val (.int pB), .val (.int dp0), .val (.int dt1), .val (.int dp1), .val (.int dt2), .val (.int dp2), .val (.int dt3), .val (.int dp3), .val (.int tB), .val (.int p0), .val (.int t1), .val (.int p1), .val (.int t2), .val (.int p2), .val (.int t3), .val (.int p3), .val (.int (2 : Int32)), .val (.ref b175), .val (.ref b176), .val (.ref b185), .val (.int tq), .val (.int pq), s30, .val (.int (-1 : Int32)), s32, s33, s34]) Xq hx (hb hby at_439) (XS.store1 rfl h31 rfl) ?_
            refine E.iload (q := 443) Xq hx (hb hby at_441) rfl ?_
            refine E.ifN (q := 446) Xq hx (hb hby at_443) (XT.i0_le_f (by decide)) ?_
            refine E.iload (q := 448) Xq hx (hb hby at_446) rfl ?_
            refine E.iload (q := 450) Xq hx (hb hby at_448) rfl ?_
            have JE0 : Ends p e below s (fun v h L => v = some (.int 1) ∧ Fr h0.size L) room_1.cells room_1.slots Tq (mkF m 463 #[.val (.int vx), .val (.int vy), .val (.long vh), .second, .val (.int vs), .val (.int vt), .val (.int vp), .val (.int tB), .val (.int pB), .val (.int dp0), .val (.int dt1), .val (.int dp1), .val (.int dt2), .val (.int dp2), .val (.int dt3), .val (.int dp3), .val (.int tB), .val (.int p0), .val (.int t1), .val (.int p1), .val (.int t2), .val (.int p2), .val (.int t3), .val (.int p3), .val (.int (2 : Int32)), .val (.ref b175), .val (.ref b176), .val (.ref b185), .val (.int tq), .val (.int pq), s30, .val (.int (if tq = tB ∧ pq = p0 then (0 : Int32) else (-1 : Int32))), s32, s33, s34] []) := by
              show Ends p e below s _ _ _ Tq (mkF m 463 #[.val (.int vx), .val (.int vy), .val (.long vh), .second, .val (.int vs), .val (.int vt), .val (.int vp), .val (.int tB), .val (.int pB), .val (.int dp0), .val (.int dt1), .val (.int dp1), .val (.int dt2), .val (.int dp2), .val (.int dt3), .val (.int dp3), .val (.int tB), .val (.int p0), .val (.int t1), .val (.int p1), .val (.int t2), .val (.int p2), .val (.int t3), .val (.int p3), .val (.int (2 : Int32)), .val (.ref b175), .val (.ref b176), .val (.ref b185), .val (.int tq), .val (.int pq), s30, .val (.int (if tq = tB ∧ pq = p0 then (0 : Int32) else (-1 : Int32))), s32, s33, s34] [])
              refine E.iload (q := 465) Xq hx (hb hby at_463) rfl ?_
              refine E.iconst (q := 466) (v := (1 : Int32)) Xq hx (hb hby at_465) rfl ?_
              refine E.icmpN (q := 469) Xq hx (hb hby at_466) (XT.ii_le_f (by decide)) ?_
              refine E.iload (q := 471) Xq hx (hb hby at_469) rfl ?_
              refine E.iload (q := 473) Xq hx (hb hby at_471) rfl ?_
              have JE1 : Ends p e below s (fun v h L => v = some (.int 1) ∧ Fr h0.size L) room_1.cells room_1.slots Tq (mkF m 486 #[.val (.int vx), .val (.int vy), .val (.long vh), .second, .val (.int vs), .val (.int vt), .val (.int vp), .val (.int tB), .val (.int pB), .val (.int dp0), .val (.int dt1), .val (.int dp1), .val (.int dt2), .val (.int dp2), .val (.int dt3), .val (.int dp3), .val (.int tB), .val (.int p0), .val (.int t1), .val (.int p1), .val (.int t2), .val (.int p2), .val (.int t3), .val (.int p3), .val (.int (2 : Int32)), .val (.ref b175), .val (.ref b176), .val (.ref b185), .val (.int tq), .val (.int pq), s30, .val (.int (if tq = t1 ∧ pq = p1 then (1 : Int32) else (if tq = tB ∧ pq = p0 then (0 : Int32) else (-1 : Int32)))), s32, s33, s34] []) := by
                show Ends p e below s _ _ _ Tq (mkF m 486 #[.val (.int vx), .val (.int vy), .val (.long vh), .second, .val (.int vs), .val (.int vt), .val (.int vp), .val (.int tB), .val (.int pB), .val (.int dp0), .val (.int dt1), .val (.int dp1), .val (.int dt2), .val (.int dp2), .val (.int dt3), .val (.int dp3), .val (.int tB), .val (.int p0), .val (.int t1), .val (.int p1), .val (.int t2), .val (.int p2), .val (.int t3), .val (.int p3), .val (.int (2 : Int32)), .val (.ref b175), .val (.ref b176), .val (.ref b185), .val (.int tq), .val (.int pq), s30, .val (.int (if tq = t1 ∧ pq = p1 then (1 : Int32) else (if tq = tB ∧ pq = p0 then (0 : Int32) else (-1 : Int32)))), s32, s33, s34] [])
                refine E.iload (q := 488) Xq hx (hb hby at_486) rfl ?_
                refine E.iconst (q := 489) (v := (2 : Int32)) Xq hx (hb hby at_488) rfl ?_
                refine E.icmpY (q := 509) Xq hx (hb hby at_489) (XT.ii_le_t (by decide)) ?_
                refine E.iload (q := 511) Xq hx (hb hby at_509) rfl ?_
                refine E.iconst (q := 512) (v := (3 : Int32)) Xq hx (hb hby at_511) rfl ?_
                refine E.icmpY (q := 532) Xq hx (hb hby at_512) (XT.ii_le_t (by decide)) ?_
                refine E.aload (q := 534) Xq hx (hb hby at_532) rfl rfl ?_
                refine E.iload (q := 536) Xq hx (hb hby at_534) rfl ?_
                refine E.iload (q := 538) Xq hx (hb hby at_536) rfl ?_
                have f211 := V182.other W184 (Nat.ne_of_lt (Nat.lt_of_lt_of_eq V175.lt g176.symm))
                have f212 := f211.ext E185
                have f213 := f212.ext E186
                have f214 := f213.ext E187
                have f215 := f214.ext E188
                have f216 := f215.keep hO207.1 (ninS (Nat.ne_of_lt (Nat.lt_of_lt_of_eq f211.lt g185.symm)) nin0)
                have f217 := V184.ext E185
                have f218 := f217.ext E186
                have f219 := f218.ext E187
                have f220 := f219.ext E188
                have f221 := f220.keep hO207.1 (ninS (Nat.ne_of_lt (Nat.lt_of_lt_of_eq V184.lt g185.symm)) nin0)
                have f222 := f191.keep hO207.1
                refine Ends.callV Xq hx hZ hown (hw _ (List.mem_of_getElem? (i := 34) rfl)) (hw _ (List.mem_of_getElem? (i := 35) rfl)) (hw _ (List.mem_of_getElem? (i := 37) rfl)) (hw _ (List.mem_of_getElem? (i := 36) rfl)) (hw _ (List.mem_of_getElem? (i := 11) rfl)) (hw _ (List.mem_of_getElem? (i := 38) rfl)) (by decide) (argsL := [(.int tq), (.int pq)]) (rest := []) eq_ f222 (rmF2 l Z a0 hw b185 tq pq b175 b176 tB p0 t1 p1 T207.heap hFt207 hFp207 f216 f221 S0) (W := 0) (by decide) (by decide) (by rw [hml]; rfl) (lenOf pd_1 rfl) (Nat.le_of_eq rfl) (hb hby at_538) (by decide) (by decide) rfl ?_
                rintro T223 v223 L223 X223 ⟨rfl, e223, rfl⟩
                rw [List.append_nil] at X223
                show Ends p e below s _ _ _ T223 (mkF m 541 #[.val (.int vx), .val (.int vy), .val (.long vh), .second, .val (.int vs), .val (.int vt), .val (.int vp), .val (.int tB), .val (.int pB), .val (.int dp0), .val (.int dt1), .val (.int dp1), .val (.int dt2), .val (.int dp2), .val (.int dt3), .val (.int dp3), .val (.int tB), .val (.int p0), .val (.int t1), .val (.int p1), .val (.int t2), .val (.int p2), .val (.int t3), .val (.int p3), .val (.int (2 : Int32)), .val (.ref b175), .val (.ref b176), .val (.ref b185), .val (.int tq), .val (.int pq), s30, .val (.int (if tq = t1 ∧ pq = p1 then (1 : Int32) else (if tq = tB ∧ pq = p0 then (0 : Int32) else (-1 : Int32)))), s32, s33, s34] [(.int (if tq = t1 ∧ pq = p1 then (1 : Int32) else (if tq = tB ∧ pq = p0 then (0 : Int32) else (-1 : Int32))))])
                refine E.iload (q := 543) X223 hx (hb hby at_541) rfl ?_
                refine E.icmpN (q := 546) X223 hx (hb hby at_543) (XT.ii_ne_f rfl) ?_
                refine E.iconst (q := 547) (v := (1 : Int32)) X223 hx (hb hby at_546) rfl ?_
                refine E.goto (q := 551) X223 hx (hb hby at_547) ?_
                exact Ends.retS X223 hx hlk hret (by simp) rfl (hb hby at_551) (by decide) (by decide) ⟨rfl, Op208.fr⟩
              by_cases ha1 : tq = t1
              · refine E.icmpN (q := 476) Xq hx (hb hby at_473) (XT.ii_ne_f ha1) ?_
                refine E.iload (q := 478) Xq hx (hb hby at_476) rfl ?_
                refine E.iload (q := 480) Xq hx (hb hby at_478) rfl ?_
                by_cases hbb1 : pq = p1
                · refine E.icmpN (q := 483) Xq hx (hb hby at_480) (XT.ii_ne_f hbb1) ?_
                  refine E.iconst (q := 484) (v := (1 : Int32)) Xq hx (hb hby at_483) rfl ?_
                  refine E.istore (q := 486) (l' := #[.val (.int vx), .val (.int vy), .val (.long vh), .second, .val (.int vs), .val (.int vt), .val (.int vp), .val (.int tB), .val (.int pB), .val (.int dp0), .val (.int dt1), .val (.int dp1), .val (.int dt2), .val (.int dp2), .val (.int dt3), .val (.int dp3), .val (.int tB), .val (.int p0), .val (.int t1), .val (.int p1), .val (.int t2), .val (.int p2), .val (.int t3), .val (.int p3), .val (.int (2 : Int32)), .val (.ref b175), .val (.ref b176), .val (.ref b185), .val (.int tq), .val (.int pq), s30, .val (.int (1 : Int32)), s32, s33, s34]) Xq hx (hb hby at_484) rfl ?_
                  rw [show (if tq = t1 ∧ pq = p1 then (1 : Int32) else (if tq = tB ∧ pq = p0 then (0 : Int32) else (-1 : Int32))) = (1 : Int32) from if_pos ⟨ha1, hbb1⟩] at JE1
                  exact JE1
                · refine E.icmpY (q := 486) Xq hx (hb hby at_480) (XT.ii_ne_t hbb1) ?_
                  rw [show (if tq = t1 ∧ pq = p1 then (1 : Int32) else (if tq = tB ∧ pq = p0 then (0 : Int32) else (-1 : Int32))) = (if tq = tB ∧ pq = p0 then (0 : Int32) else (-1 : Int32)) from if_neg (fun q => hbb1 q.2)] at JE1
                  exact JE1
              · refine E.icmpY (q := 486) Xq hx (hb hby at_473) (XT.ii_ne_t ha1) ?_
                rw [show (if tq = t1 ∧ pq = p1 then (1 : Int32) else (if tq = tB ∧ pq = p0 then (0 : Int32) else (-1 : Int32))) = (if tq = tB ∧ pq = p0 then (0 : Int32) else (-1 : Int32)) from if_neg (fun q => ha1 q.1)] at JE1
                exact JE1
            by_cases ha0 : tq = tB
            · refine E.icmpN (q := 453) Xq hx (hb hby at_450) (XT.ii_ne_f ha0) ?_
              refine E.iload (q := 455) Xq hx (hb hby at_453) rfl ?_
              refine E.iload (q := 457) Xq hx (hb hby at_455) rfl ?_
              by_cases hbb0 : pq = p0
              · refine E.icmpN (q := 460) Xq hx (hb hby at_457) (XT.ii_ne_f hbb0) ?_
                refine E.iconst (q := 461) (v := (0 : Int32)) Xq hx (hb hby at_460) rfl ?_
                refine E.istore (q := 463) (l' := #[.val (.int vx), .val (.int vy), .val (.long vh), .second, .val (.int vs), .val (.int vt), .val (.int vp), .val (.int tB), .val (.int pB), .val (.int dp0), .val (.int dt1), .val (.int dp1), .val (.int dt2), .val (.int dp2), .val (.int dt3), .val (.int dp3), .val (.int tB), .val (.int p0), .val (.int t1), .val (.int p1), .val (.int t2), .val (.int p2), .val (.int t3), .val (.int p3), .val (.int (2 : Int32)), .val (.ref b175), .val (.ref b176), .val (.ref b185), .val (.int tq), .val (.int pq), s30, .val (.int (0 : Int32)), s32, s33, s34]) Xq hx (hb hby at_461) rfl ?_
                rw [show (if tq = tB ∧ pq = p0 then (0 : Int32) else (-1 : Int32)) = (0 : Int32) from if_pos ⟨ha0, hbb0⟩] at JE0
                exact JE0
              · refine E.icmpY (q := 463) Xq hx (hb hby at_457) (XT.ii_ne_t hbb0) ?_
                rw [show (if tq = tB ∧ pq = p0 then (0 : Int32) else (-1 : Int32)) = (-1 : Int32) from if_neg (fun q => hbb0 q.2)] at JE0
                exact JE0
            · refine E.icmpY (q := 463) Xq hx (hb hby at_450) (XT.ii_ne_t ha0) ?_
              rw [show (if tq = tB ∧ pq = p0 then (0 : Int32) else (-1 : Int32)) = (-1 : Int32) from if_neg (fun q => ha0 q.1)] at JE0
              exact JE0
          by_cases hm335 : (((vs.toUInt32 >>> ((3 : Int32) &&& 31).toUInt32).toInt32) &&& (3 : Int32)) = (0 : Int32)
          · refine E.ifY (q := 438) Xp208 hx (hb hby at_335) (XT.i0_eq_t hm335) ?_
            exact JQ _ _ _ _ _ _ _ _ Xp208 e207 (Or.inl rfl)
          · refine E.ifN (q := 338) Xp208 hx (hb hby at_335) (XT.i0_eq_f hm335) ?_
            refine E.iload (q := 340) Xp208 hx (hb hby at_338) rfl ?_
            refine E.iconst (q := 341) (v := (5 : Int32)) Xp208 hx (hb hby at_340) rfl ?_
            refine E.iushr (q := 342) Xp208 hx (hb hby at_341) ?_
            refine E.iconst (q := 343) (v := (3 : Int32)) Xp208 hx (hb hby at_342) rfl ?_
            refine E.iand (q := 344) Xp208 hx (hb hby at_343) ?_
            refine E.iload (q := 346) Xp208 hx (hb hby at_344) rfl ?_
            refine E.irem (q := 347) Xp208 hx (hb hby at_346) (by decide) ?_
            refine E.istore (q := 349) (l' := #[.val (.int vx), .val (.int vy), .val (.long vh), .second, .val (.int vs), .val (.int vt), .val (.int vp), .val (.int tB), .val (.int pB), .val (.int dp0), .val (.int dt1), .val (.int dp1), .val (.int dt2), .val (.int dp2), .val (.int dt3), .val (.int dp3), .val (.int tB), .val (.int p0), .val (.int t1), .val (.int p1), .val (.int t2), .val (.int p2), .val (.int t3), .val (.int p3), .val (.int (2 : Int32)), .val (.ref b175), .val (.ref b176), .val (.ref b185), .val (.int vt), .val (.int vp), .val (.int (((vs.toUInt32 >>> ((3 : Int32) &&& 31).toUInt32).toInt32) &&& (3 : Int32))), .val (.int ((((vs.toUInt32 >>> ((5 : Int32) &&& 31).toUInt32).toInt32) &&& (3 : Int32)) % (2 : Int32))), .unset, .unset, .unset]) Xp208 hx (hb hby at_347) rfl ?_
            refine E.iload (q := 351) Xp208 hx (hb hby at_349) rfl ?_
            refine E.iload (q := 353) Xp208 hx (hb hby at_351) rfl ?_
            refine E.iload (q := 355) Xp208 hx (hb hby at_353) rfl ?_
            refine E.iload (q := 357) Xp208 hx (hb hby at_355) rfl ?_
            refine E.iload (q := 359) Xp208 hx (hb hby at_357) rfl ?_
            refine Ends.callS Xp208 hx hZ hown (hw _ (List.mem_of_getElem? (i := 39) rfl)) (hw _ (List.mem_of_getElem? (i := 40) rfl)) (hw _ (List.mem_of_getElem? (i := 41) rfl)) (hw _ (List.mem_of_getElem? (i := 42) rfl)) (by decide) (argsL := [(.int ((((vs.toUInt32 >>> ((5 : Int32) &&& 31).toUInt32).toInt32) &&& (3 : Int32)) % (2 : Int32))), (.int tB), (.int t1), (.int t2), (.int t3)]) (rest := []) e207 (rm6 l Z a0 hw ((((vs.toUInt32 >>> ((5 : Int32) &&& 31).toUInt32).toInt32) &&& (3 : Int32)) % (2 : Int32)) tB t1 t2 t3 T207.heap) (W := 0) (by decide) (by decide) (by rw [hml]; rfl) (lenOf pd_3 rfl) (Nat.le_of_eq rfl) (hb hby at_359) (by decide) (by decide) rfl ?_
            rintro T209 v209 L209 X209 ⟨z209, rfl, e209, rfl⟩
            rw [List.append_nil] at X209
            show Ends p e below s _ _ _ T209 (mkF m 362 #[.val (.int vx), .val (.int vy), .val (.long vh), .second, .val (.int vs), .val (.int vt), .val (.int vp), .val (.int tB), .val (.int pB), .val (.int dp0), .val (.int dt1), .val (.int dp1), .val (.int dt2), .val (.int dp2), .val (.int dt3), .val (.int dp3), .val (.int tB), .val (.int p0), .val (.int t1), .val (.int p1), .val (.int t2), .val (.int p2), .val (.int t3), .val (.int p3), .val (.int (2 : Int32)), .val (.ref b175), .val (.ref b176), .val (.ref b185), .val (.int vt), .val (.int vp), .val (.int (((vs.toUInt32 >>> ((3 : Int32) &&& 31).toUInt32).toInt32) &&& (3 : Int32))), .val (.int ((((vs.toUInt32 >>> ((5 : Int32) &&& 31).toUInt32).toInt32) &&& (3 : Int32)) % (2 : Int32))), .unset, .unset, .unset] [(.int z209)])
            refine E.istore (q := 364) (l' := #[.val (.int vx), .val (.int vy), .val (.long vh), .second, .val (.int vs), .val (.int vt), .val (.int vp), .val (.int tB), .val (.int pB), .val (.int dp0), .val (.int dt1), .val (.int dp1), .val (.int dt2), .val (.int dp2), .val (.int dt3), .val (.int dp3), .val (.int tB), .val (.int p0), .val (.int t1), .val (.int p1), .val (.int t2), .val (.int p2), .val (.int t3), .val (.int p3), .val (.int (2 : Int32)), .val (.ref b175), .val (.ref b176), .val (.ref b185), .val (.int vt), .val (.int vp), .val (.int (((vs.toUInt32 >>> ((3 : Int32) &&& 31).toUInt32).toInt32) &&& (3 : Int32))), .val (.int ((((vs.toUInt32 >>> ((5 : Int32) &&& 31).toUInt32).toInt32) &&& (3 : Int32)) % (2 : Int32))), .val (.int z209), .unset, .unset]) X209 hx (hb hby at_362) rfl ?_
            refine E.iload (q := 366) X209 hx (hb hby at_364) rfl ?_
            refine E.iload (q := 368) X209 hx (hb hby at_366) rfl ?_
            refine E.iload (q := 370) X209 hx (hb hby at_368) rfl ?_
            refine E.iload (q := 372) X209 hx (hb hby at_370) rfl ?_
            refine E.iload (q := 374) X209 hx (hb hby at_372) rfl ?_
            refine Ends.callS X209 hx hZ hown (hw _ (List.mem_of_getElem? (i := 39) rfl)) (hw _ (List.mem_of_getElem? (i := 40) rfl)) (hw _ (List.mem_of_getElem? (i := 41) rfl)) (hw _ (List.mem_of_getElem? (i := 42) rfl)) (by decide) (argsL := [(.int ((((vs.toUInt32 >>> ((5 : Int32) &&& 31).toUInt32).toInt32) &&& (3 : Int32)) % (2 : Int32))), (.int p0), (.int p1), (.int p2), (.int p3)]) (rest := []) e209 (rm6 l Z a0 hw ((((vs.toUInt32 >>> ((5 : Int32) &&& 31).toUInt32).toInt32) &&& (3 : Int32)) % (2 : Int32)) p0 p1 p2 p3 T207.heap) (W := 0) (by decide) (by decide) (by rw [hml]; rfl) (lenOf pd_3 rfl) (Nat.le_of_eq rfl) (hb hby at_374) (by decide) (by decide) rfl ?_
            rintro T210 v210 L210 X210 ⟨z210, rfl, e210, rfl⟩
            rw [List.append_nil] at X210
            show Ends p e below s _ _ _ T210 (mkF m 377 #[.val (.int vx), .val (.int vy), .val (.long vh), .second, .val (.int vs), .val (.int vt), .val (.int vp), .val (.int tB), .val (.int pB), .val (.int dp0), .val (.int dt1), .val (.int dp1), .val (.int dt2), .val (.int dp2), .val (.int dt3), .val (.int dp3), .val (.int tB), .val (.int p0), .val (.int t1), .val (.int p1), .val (.int t2), .val (.int p2), .val (.int t3), .val (.int p3), .val (.int (2 : Int32)), .val (.ref b175), .val (.ref b176), .val (.ref b185), .val (.int vt), .val (.int vp), .val (.int (((vs.toUInt32 >>> ((3 : Int32) &&& 31).toUInt32).toInt32) &&& (3 : Int32))), .val (.int ((((vs.toUInt32 >>> ((5 : Int32) &&& 31).toUInt32).toInt32) &&& (3 : Int32)) % (2 : Int32))), .val (.int z209), .unset, .unset] [(.int z210)])
            refine E.istore (q := 379) (l' := #[.val (.int vx), .val (.int vy), .val (.long vh), .second, .val (.int vs), .val (.int vt), .val (.int vp), .val (.int tB), .val (.int pB), .val (.int dp0), .val (.int dt1), .val (.int dp1), .val (.int dt2), .val (.int dp2), .val (.int dt3), .val (.int dp3), .val (.int tB), .val (.int p0), .val (.int t1), .val (.int p1), .val (.int t2), .val (.int p2), .val (.int t3), .val (.int p3), .val (.int (2 : Int32)), .val (.ref b175), .val (.ref b176), .val (.ref b185), .val (.int vt), .val (.int vp), .val (.int (((vs.toUInt32 >>> ((3 : Int32) &&& 31).toUInt32).toInt32) &&& (3 : Int32))), .val (.int ((((vs.toUInt32 >>> ((5 : Int32) &&& 31).toUInt32).toInt32) &&& (3 : Int32)) % (2 : Int32))), .val (.int z209), .val (.int z210), .unset]) X210 hx (hb hby at_377) rfl ?_
            refine E.iload (q := 381) X210 hx (hb hby at_379) rfl ?_
            refine E.ldc (q := 383) X210 hx hZ hown (hw _ (List.mem_of_getElem? (i := 0) rfl)) (hb hby at_381) ?_
            refine E.iand (q := 384) X210 hx (hb hby at_383) ?_
            refine E.iconst (q := 385) (v := (3 : Int32)) X210 hx (hb hby at_384) rfl ?_
            refine E.irem (q := 386) X210 hx (hb hby at_385) (by decide) ?_
            refine E.iconst (q := 387) (v := (1 : Int32)) X210 hx (hb hby at_386) rfl ?_
            refine E.isub (q := 388) X210 hx (hb hby at_387) ?_
            refine E.istore (q := 390) (l' := #[.val (.int vx), .val (.int vy), .val (.long vh), .second, .val (.int vs), .val (.int vt), .val (.int vp), .val (.int tB), .val (.int pB), .val (.int dp0), .val (.int dt1), .val (.int dp1), .val (.int dt2), .val (.int dp2), .val (.int dt3), .val (.int dp3), .val (.int tB), .val (.int p0), .val (.int t1), .val (.int p1), .val (.int t2), .val (.int p2), .val (.int t3), .val (.int p3), .val (.int (2 : Int32)), .val (.ref b175), .val (.ref b176), .val (.ref b185), .val (.int vt), .val (.int vp), .val (.int (((vs.toUInt32 >>> ((3 : Int32) &&& 31).toUInt32).toInt32) &&& (3 : Int32))), .val (.int ((((vs.toUInt32 >>> ((5 : Int32) &&& 31).toUInt32).toInt32) &&& (3 : Int32)) % (2 : Int32))), .val (.int z209), .val (.int z210), .val (.int (((vp &&& (2147483647 : Int32)) % (3 : Int32)) - (1 : Int32)))]) X210 hx (hb hby at_388) rfl ?_
            refine E.iload (q := 392) X210 hx (hb hby at_390) rfl ?_
            refine E.iconst (q := 393) (v := (1 : Int32)) X210 hx (hb hby at_392) rfl ?_
            by_cases hm393 : (((vs.toUInt32 >>> ((3 : Int32) &&& 31).toUInt32).toInt32) &&& (3 : Int32)) = (1 : Int32)
            · refine E.icmpN (q := 396) X210 hx (hb hby at_393) (XT.ii_ne_f hm393) ?_
              refine E.iload (q := 398) X210 hx (hb hby at_396) rfl ?_
              refine E.istore (q := 400) (l' := #[.val (.int vx), .val (.int vy), .val (.long vh), .second, .val (.int vs), .val (.int vt), .val (.int vp), .val (.int tB), .val (.int pB), .val (.int dp0), .val (.int dt1), .val (.int dp1), .val (.int dt2), .val (.int dp2), .val (.int dt3), .val (.int dp3), .val (.int tB), .val (.int p0), .val (.int t1), .val (.int p1), .val (.int t2), .val (.int p2), .val (.int t3), .val (.int p3), .val (.int (2 : Int32)), .val (.ref b175), .val (.ref b176), .val (.ref b185), .val (.int z209), .val (.int vp), .val (.int (((vs.toUInt32 >>> ((3 : Int32) &&& 31).toUInt32).toInt32) &&& (3 : Int32))), .val (.int ((((vs.toUInt32 >>> ((5 : Int32) &&& 31).toUInt32).toInt32) &&& (3 : Int32)) % (2 : Int32))), .val (.int z209), .val (.int z210), .val (.int (((vp &&& (2147483647 : Int32)) % (3 : Int32)) - (1 : Int32)))]) X210 hx (hb hby at_398) rfl ?_
              refine E.iload (q := 402) X210 hx (hb hby at_400) rfl ?_
              refine E.istore (q := 404) (l' := #[.val (.int vx), .val (.int vy), .val (.long vh), .second, .val (.int vs), .val (.int vt), .val (.int vp), .val (.int tB), .val (.int pB), .val (.int dp0), .val (.int dt1), .val (.int dp1), .val (.int dt2), .val (.int dp2), .val (.int dt3), .val (.int dp3), .val (.int tB), .val (.int p0), .val (.int t1), .val (.int p1), .val (.int t2), .val (.int p2), .val (.int t3), .val (.int p3), .val (.int (2 : Int32)), .val (.ref b175), .val (.ref b176), .val (.ref b185), .val (.int z209), .val (.int z210), .val (.int (((vs.toUInt32 >>> ((3 : Int32) &&& 31).toUInt32).toInt32) &&& (3 : Int32))), .val (.int ((((vs.toUInt32 >>> ((5 : Int32) &&& 31).toUInt32).toInt32) &&& (3 : Int32)) % (2 : Int32))), .val (.int z209), .val (.int z210), .val (.int (((vp &&& (2147483647 : Int32)) % (3 : Int32)) - (1 : Int32)))]) X210 hx (hb hby at_402) rfl ?_
              refine E.goto (q := 438) X210 hx (hb hby at_404) ?_
              exact JQ _ _ _ _ _ _ _ _ X210 e210 (Or.inr ⟨_, rfl, rfl⟩)
            · refine E.icmpY (q := 407) X210 hx (hb hby at_393) (XT.ii_ne_t hm393) ?_
              refine E.iload (q := 409) X210 hx (hb hby at_407) rfl ?_
              refine E.iconst (q := 410) (v := (2 : Int32)) X210 hx (hb hby at_409) rfl ?_
              by_cases hm410 : (((vs.toUInt32 >>> ((3 : Int32) &&& 31).toUInt32).toInt32) &&& (3 : Int32)) = (2 : Int32)
              · refine E.icmpN (q := 413) X210 hx (hb hby at_410) (XT.ii_ne_f hm410) ?_
                refine E.iload (q := 415) X210 hx (hb hby at_413) rfl ?_
                refine E.istore (q := 417) (l' := #[.val (.int vx), .val (.int vy), .val (.long vh), .second, .val (.int vs), .val (.int vt), .val (.int vp), .val (.int tB), .val (.int pB), .val (.int dp0), .val (.int dt1), .val (.int dp1), .val (.int dt2), .val (.int dp2), .val (.int dt3), .val (.int dp3), .val (.int tB), .val (.int p0), .val (.int t1), .val (.int p1), .val (.int t2), .val (.int p2), .val (.int t3), .val (.int p3), .val (.int (2 : Int32)), .val (.ref b175), .val (.ref b176), .val (.ref b185), .val (.int z209), .val (.int vp), .val (.int (((vs.toUInt32 >>> ((3 : Int32) &&& 31).toUInt32).toInt32) &&& (3 : Int32))), .val (.int ((((vs.toUInt32 >>> ((5 : Int32) &&& 31).toUInt32).toInt32) &&& (3 : Int32)) % (2 : Int32))), .val (.int z209), .val (.int z210), .val (.int (((vp &&& (2147483647 : Int32)) % (3 : Int32)) - (1 : Int32)))]) X210 hx (hb hby at_415) rfl ?_
                refine E.iload (q := 419) X210 hx (hb hby at_417) rfl ?_
                refine E.iload (q := 421) X210 hx (hb hby at_419) rfl ?_
                refine E.iadd (q := 422) X210 hx (hb hby at_421) ?_
                refine E.istore (q := 424) (l' := #[.val (.int vx), .val (.int vy), .val (.long vh), .second, .val (.int vs), .val (.int vt), .val (.int vp), .val (.int tB), .val (.int pB), .val (.int dp0), .val (.int dt1), .val (.int dp1), .val (.int dt2), .val (.int dp2), .val (.int dt3), .val (.int dp3), .val (.int tB), .val (.int p0), .val (.int t1), .val (.int p1), .val (.int t2), .val (.int p2), .val (.int t3), .val (.int p3), .val (.int (2 : Int32)), .val (.ref b175), .val (.ref b176), .val (.ref b185), .val (.int z209), .val (.int (z210 + (((vp &&& (2147483647 : Int32)) % (3 : Int32)) - (1 : Int32)))), .val (.int (((vs.toUInt32 >>> ((3 : Int32) &&& 31).toUInt32).toInt32) &&& (3 : Int32))), .val (.int ((((vs.toUInt32 >>> ((5 : Int32) &&& 31).toUInt32).toInt32) &&& (3 : Int32)) % (2 : Int32))), .val (.int z209), .val (.int z210), .val (.int (((vp &&& (2147483647 : Int32)) % (3 : Int32)) - (1 : Int32)))]) X210 hx (hb hby at_422) rfl ?_
                refine E.goto (q := 438) X210 hx (hb hby at_424) ?_
                exact JQ _ _ _ _ _ _ _ _ X210 e210 (Or.inr ⟨_, rfl, rfl⟩)
              · refine E.icmpY (q := 427) X210 hx (hb hby at_410) (XT.ii_ne_t hm410) ?_
                refine E.iload (q := 429) X210 hx (hb hby at_427) rfl ?_
                refine E.iload (q := 431) X210 hx (hb hby at_429) rfl ?_
                refine E.iadd (q := 432) X210 hx (hb hby at_431) ?_
                refine E.istore (q := 434) (l' := #[.val (.int vx), .val (.int vy), .val (.long vh), .second, .val (.int vs), .val (.int vt), .val (.int vp), .val (.int tB), .val (.int pB), .val (.int dp0), .val (.int dt1), .val (.int dp1), .val (.int dt2), .val (.int dp2), .val (.int dt3), .val (.int dp3), .val (.int tB), .val (.int p0), .val (.int t1), .val (.int p1), .val (.int t2), .val (.int p2), .val (.int t3), .val (.int p3), .val (.int (2 : Int32)), .val (.ref b175), .val (.ref b176), .val (.ref b185), .val (.int (z209 + (((vp &&& (2147483647 : Int32)) % (3 : Int32)) - (1 : Int32)))), .val (.int vp), .val (.int (((vs.toUInt32 >>> ((3 : Int32) &&& 31).toUInt32).toInt32) &&& (3 : Int32))), .val (.int ((((vs.toUInt32 >>> ((5 : Int32) &&& 31).toUInt32).toInt32) &&& (3 : Int32)) % (2 : Int32))), .val (.int z209), .val (.int z210), .val (.int (((vp &&& (2147483647 : Int32)) % (3 : Int32)) - (1 : Int32)))]) X210 hx (hb hby at_432) rfl ?_
                refine E.iload (q := 436) X210 hx (hb hby at_434) rfl ?_
                refine E.istore (q := 438) (l' := #[.val (.int vx), .val (.int vy), .val (.long vh), .second, .val (.int vs), .val (.int vt), .val (.int vp), .val (.int tB), .val (.int pB), .val (.int dp0), .val (.int dt1), .val (.int dp1), .val (.int dt2), .val (.int dp2), .val (.int dt3), .val (.int dp3), .val (.int tB), .val (.int p0), .val (.int t1), .val (.int p1), .val (.int t2), .val (.int p2), .val (.int t3), .val (.int p3), .val (.int (2 : Int32)), .val (.ref b175), .val (.ref b176), .val (.ref b185), .val (.int (z209 + (((vp &&& (2147483647 : Int32)) % (3 : Int32)) - (1 : Int32)))), .val (.int z210), .val (.int (((vs.toUInt32 >>> ((3 : Int32) &&& 31).toUInt32).toInt32) &&& (3 : Int32))), .val (.int ((((vs.toUInt32 >>> ((5 : Int32) &&& 31).toUInt32).toInt32) &&& (3 : Int32)) % (2 : Int32))), .val (.int z209), .val (.int z210), .val (.int (((vp &&& (2147483647 : Int32)) % (3 : Int32)) - (1 : Int32)))]) X210 hx (hb hby at_436) rfl ?_
                exact JQ _ _ _ _ _ _ _ _ X210 e210 (Or.inr ⟨_, rfl, rfl⟩)
        · subst hn
          show Ends p e below s _ _ _ T90 (mkF m 202 #[.val (.int vx), .val (.int vy), .val (.long vh), .second, .val (.int vs), .val (.int vt), .val (.int vp), .val (.int tB), .val (.int pB), .val (.int dp0), .val (.int dt1), .val (.int dp1), .val (.int dt2), .val (.int dp2), .val (.int dt3), .val (.int dp3), .val (.int tB), .val (.int p0), .val (.int t1), .val (.int p1), .val (.int t2), .val (.int p2), .val (.int t3), .val (.int p3), .unset, .unset, .unset, .unset, .unset, .unset, .unset, .unset, .unset, .unset, .unset] [(.int (3 : Int32))])
          refine E.istore (q := 204) (l' := #[.val (.int vx), .val (.int vy), .val (.long vh), .second, .val (.int vs), .val (.int vt), .val (.int vp), .val (.int tB), .val (.int pB), .val (.int dp0), .val (.int dt1), .val (.int dp1), .val (.int dt2), .val (.int dp2), .val (.int dt3), .val (.int dp3), .val (.int tB), .val (.int p0), .val (.int t1), .val (.int p1), .val (.int t2), .val (.int p2), .val (.int t3), .val (.int p3), .val (.int (3 : Int32)), .unset, .unset, .unset, .unset, .unset, .unset, .unset, .unset, .unset, .unset]) X90 hx (hb hby at_202) rfl ?_
          refine E.iload (q := 206) X90 hx (hb hby at_204) rfl ?_
          refine Ends.newA X90 hx hZ (hw _ (List.mem_of_getElem? (i := 8) rfl)) e90 (hb hby at_206) (N := 3) rfl (by decide) (by decide) (by decide) ?_
          intro T224 h224 b224 g224 X224 e224 E224 A224
          have ge_b224 : h0.size ≤ b224 := Nat.le_trans O0.le (Nat.le_of_eq g224.symm)
          have O224 := O0.ext E224
          have V224 : Ary Z h224 b224 .int [(.int (0 : Int32)), (.int (0 : Int32)), (.int (0 : Int32))] := A224
          refine E.astore (q := 210) (l' := #[.val (.int vx), .val (.int vy), .val (.long vh), .second, .val (.int vs), .val (.int vt), .val (.int vp), .val (.int tB), .val (.int pB), .val (.int dp0), .val (.int dt1), .val (.int dp1), .val (.int dt2), .val (.int dp2), .val (.int dt3), .val (.int dp3), .val (.int tB), .val (.int p0), .val (.int t1), .val (.int p1), .val (.int t2), .val (.int p2), .val (.int t3), .val (.int p3), .val (.int (3 : Int32)), .val (.ref b224), .unset, .unset, .unset, .unset, .unset, .unset, .unset, .unset, .unset]) X224 hx (hb hby at_208) rfl rfl ?_
          refine E.iload (q := 212) X224 hx (hb hby at_210) rfl ?_
          refine Ends.newA X224 hx hZ (hw _ (List.mem_of_getElem? (i := 8) rfl)) e224 (hb hby at_212) (N := 3) rfl (by decide) (by decide) (by decide) ?_
          intro T225 h225 b225 g225 X225 e225 E225 A225
          have ge_b225 : h0.size ≤ b225 := Nat.le_trans O224.le (Nat.le_of_eq g225.symm)
          have O225 := O224.ext E225
          have V225 : Ary Z h225 b225 .int [(.int (0 : Int32)), (.int (0 : Int32)), (.int (0 : Int32))] := A225
          refine E.astore (q := 216) (l' := #[.val (.int vx), .val (.int vy), .val (.long vh), .second, .val (.int vs), .val (.int vt), .val (.int vp), .val (.int tB), .val (.int pB), .val (.int dp0), .val (.int dt1), .val (.int dp1), .val (.int dt2), .val (.int dp2), .val (.int dt3), .val (.int dp3), .val (.int tB), .val (.int p0), .val (.int t1), .val (.int p1), .val (.int t2), .val (.int p2), .val (.int t3), .val (.int p3), .val (.int (3 : Int32)), .val (.ref b224), .val (.ref b225), .unset, .unset, .unset, .unset, .unset, .unset, .unset, .unset]) X225 hx (hb hby at_214) rfl rfl ?_
          refine E.iload (q := 218) X225 hx (hb hby at_216) rfl ?_
          refine E.ifN (q := 221) X225 hx (hb hby at_218) (XT.i0_le_f (by decide)) ?_
          refine E.aload (q := 223) X225 hx (hb hby at_221) rfl rfl ?_
          refine E.iconst (q := 224) (v := (0 : Int32)) X225 hx (hb hby at_223) rfl ?_
          refine E.iload (q := 226) X225 hx (hb hby at_224) rfl ?_
          have f226 := V224.ext E225
          refine Ends.ist X225 hx hZ e225 f226 (i := 0) rfl (show 0 < 3 from by decide) (hb hby at_226) ?_
          intro T227 h227 X227 e227 W227 V227
          have V227 : Ary Z h227 b224 .int [(.int tB), (.int (0 : Int32)), (.int (0 : Int32))] := V227
          have O227 := O225.wr W227 (Or.inr ge_b224)
          refine E.aload (q := 229) X227 hx (hb hby at_227) rfl rfl ?_
          refine E.iconst (q := 230) (v := (0 : Int32)) X227 hx (hb hby at_229) rfl ?_
          refine E.iload (q := 232) X227 hx (hb hby at_230) rfl ?_
          have f228 := V225.other W227 (Ne.symm (Nat.ne_of_lt (Nat.lt_of_lt_of_eq V224.lt g225.symm)))
          refine Ends.ist X227 hx hZ e227 f228 (i := 0) rfl (show 0 < 3 from by decide) (hb hby at_232) ?_
          intro T229 h229 X229 e229 W229 V229
          have V229 : Ary Z h229 b225 .int [(.int p0), (.int (0 : Int32)), (.int (0 : Int32))] := V229
          have O229 := O227.wr W229 (Or.inr ge_b225)
          refine E.iload (q := 235) X229 hx (hb hby at_233) rfl ?_
          refine E.iconst (q := 236) (v := (1 : Int32)) X229 hx (hb hby at_235) rfl ?_
          refine E.icmpN (q := 239) X229 hx (hb hby at_236) (XT.ii_le_f (by decide)) ?_
          refine E.aload (q := 241) X229 hx (hb hby at_239) rfl rfl ?_
          refine E.iconst (q := 242) (v := (1 : Int32)) X229 hx (hb hby at_241) rfl ?_
          refine E.iload (q := 244) X229 hx (hb hby at_242) rfl ?_
          have f230 := V227.other W229 (Nat.ne_of_lt (Nat.lt_of_lt_of_eq V224.lt g225.symm))
          refine Ends.ist X229 hx hZ e229 f230 (i := 1) rfl (show 1 < 3 from by decide) (hb hby at_244) ?_
          intro T231 h231 X231 e231 W231 V231
          have V231 : Ary Z h231 b224 .int [(.int tB), (.int t1), (.int (0 : Int32))] := V231
          have O231 := O229.wr W231 (Or.inr ge_b224)
          refine E.aload (q := 247) X231 hx (hb hby at_245) rfl rfl ?_
          refine E.iconst (q := 248) (v := (1 : Int32)) X231 hx (hb hby at_247) rfl ?_
          refine E.iload (q := 250) X231 hx (hb hby at_248) rfl ?_
          have f232 := V229.other W231 (Ne.symm (Nat.ne_of_lt (Nat.lt_of_lt_of_eq V224.lt g225.symm)))
          refine Ends.ist X231 hx hZ e231 f232 (i := 1) rfl (show 1 < 3 from by decide) (hb hby at_250) ?_
          intro T233 h233 X233 e233 W233 V233
          have V233 : Ary Z h233 b225 .int [(.int p0), (.int p1), (.int (0 : Int32))] := V233
          have O233 := O231.wr W233 (Or.inr ge_b225)
          refine E.iload (q := 253) X233 hx (hb hby at_251) rfl ?_
          refine E.iconst (q := 254) (v := (2 : Int32)) X233 hx (hb hby at_253) rfl ?_
          refine E.icmpN (q := 257) X233 hx (hb hby at_254) (XT.ii_le_f (by decide)) ?_
          refine E.aload (q := 259) X233 hx (hb hby at_257) rfl rfl ?_
          refine E.iconst (q := 260) (v := (2 : Int32)) X233 hx (hb hby at_259) rfl ?_
          refine E.iload (q := 262) X233 hx (hb hby at_260) rfl ?_
          have f234 := V231.other W233 (Nat.ne_of_lt (Nat.lt_of_lt_of_eq V224.lt g225.symm))
          refine Ends.ist X233 hx hZ e233 f234 (i := 2) rfl (show 2 < 3 from by decide) (hb hby at_262) ?_
          intro T235 h235 X235 e235 W235 V235
          have V235 : Ary Z h235 b224 .int [(.int tB), (.int t1), (.int t2)] := V235
          have O235 := O233.wr W235 (Or.inr ge_b224)
          refine E.aload (q := 265) X235 hx (hb hby at_263) rfl rfl ?_
          refine E.iconst (q := 266) (v := (2 : Int32)) X235 hx (hb hby at_265) rfl ?_
          refine E.iload (q := 268) X235 hx (hb hby at_266) rfl ?_
          have f236 := V233.other W235 (Ne.symm (Nat.ne_of_lt (Nat.lt_of_lt_of_eq V224.lt g225.symm)))
          refine Ends.ist X235 hx hZ e235 f236 (i := 2) rfl (show 2 < 3 from by decide) (hb hby at_268) ?_
          intro T237 h237 X237 e237 W237 V237
          have V237 : Ary Z h237 b225 .int [(.int p0), (.int p1), (.int p2)] := V237
          have O237 := O235.wr W237 (Or.inr ge_b225)
          refine E.iload (q := 271) X237 hx (hb hby at_269) rfl ?_
          refine E.iconst (q := 272) (v := (3 : Int32)) X237 hx (hb hby at_271) rfl ?_
          refine E.icmpY (q := 287) X237 hx (hb hby at_272) (XT.ii_le_t (by decide)) ?_
          refine Ends.newC X237 hx hZ hown (hw _ (List.mem_of_getElem? (i := 9) rfl)) (hw _ (List.mem_of_getElem? (i := 10) rfl)) (hw _ (List.mem_of_getElem? (i := 11) rfl)) e237 (hb hby at_287) (by decide) (by decide) ?_
          intro T238 h238 b238 g238 X238 e238 E238 A238 D238
          have ge_b238 : h0.size ≤ b238 := Nat.le_trans O237.le (Nat.le_of_eq g238.symm)
          have O238 := O237.ext E238
          have F238_trips : Fld Z h238 b238 "com/example/hourline/hourline/network/Timetable$Calls" "trips" "[I" .null := D238 (Or.inr (hw _ (List.mem_of_getElem? (i := 25) rfl))) (ty := (.array .int)) (by decide)
          have F238_positions : Fld Z h238 b238 "com/example/hourline/hourline/network/Timetable$Calls" "positions" "[I" .null := D238 (Or.inr (hw _ (List.mem_of_getElem? (i := 27) rfl))) (ty := (.array .int)) (by decide)
          have F238_arrivals : Fld Z h238 b238 "com/example/hourline/hourline/network/Timetable$Calls" "arrivals" "[I" .null := D238 (Or.inr (hw _ (List.mem_of_getElem? (i := 29) rfl))) (ty := (.array .int)) (by decide)
          have F238_departures : Fld Z h238 b238 "com/example/hourline/hourline/network/Timetable$Calls" "departures" "[I" .null := D238 (Or.inr (hw _ (List.mem_of_getElem? (i := 31) rfl))) (ty := (.array .int)) (by decide)
          have F238_kinds : Fld Z h238 b238 "com/example/hourline/hourline/network/Timetable$Calls" "kinds" "[B" .null := D238 (Or.inr (hw _ (List.mem_of_getElem? (i := 33) rfl))) (ty := (.array .byte)) (by decide)
          refine E.dup (q := 291) X238 hx (hb hby at_290) rfl ?_
          refine E.aload (q := 293) X238 hx (hb hby at_291) rfl rfl ?_
          refine E.aload (q := 295) X238 hx (hb hby at_293) rfl rfl ?_
          refine E.iload (q := 297) X238 hx (hb hby at_295) rfl ?_
          refine Ends.newA X238 hx hZ (hw _ (List.mem_of_getElem? (i := 8) rfl)) e238 (hb hby at_297) (N := 3) rfl (by decide) (by decide) (by decide) ?_
          intro T239 h239 b239 g239 X239 e239 E239 A239
          have ge_b239 : h0.size ≤ b239 := Nat.le_trans O238.le (Nat.le_of_eq g239.symm)
          have O239 := O238.ext E239
          have V239 : Ary Z h239 b239 .int [(.int (0 : Int32)), (.int (0 : Int32)), (.int (0 : Int32))] := A239
          refine E.iload (q := 301) X239 hx (hb hby at_299) rfl ?_
          refine Ends.newA X239 hx hZ (hw _ (List.mem_of_getElem? (i := 8) rfl)) e239 (hb hby at_301) (N := 3) rfl (by decide) (by decide) (by decide) ?_
          intro T240 h240 b240 g240 X240 e240 E240 A240
          have ge_b240 : h0.size ≤ b240 := Nat.le_trans O239.le (Nat.le_of_eq g240.symm)
          have O240 := O239.ext E240
          have V240 : Ary Z h240 b240 .int [(.int (0 : Int32)), (.int (0 : Int32)), (.int (0 : Int32))] := A240
          refine E.iload (q := 305) X240 hx (hb hby at_303) rfl ?_
          refine Ends.newA X240 hx hZ (hw _ (List.mem_of_getElem? (i := 12) rfl)) e240 (hb hby at_305) (N := 3) rfl (by decide) (by decide) (by decide) ?_
          intro T241 h241 b241 g241 X241 e241 E241 A241
          have ge_b241 : h0.size ≤ b241 := Nat.le_trans O240.le (Nat.le_of_eq g241.symm)
          have O241 := O240.ext E241
          have V241 : Ary Z h241 b241 .byte [(.int (0 : Int32)), (.int (0 : Int32)), (.int (0 : Int32))] := A241
          have f242 := A238.ext E239
          have f243 := f242.ext E240
          have f244 := f243.ext E241
          have f245 := F238_trips.ext E239
          have f246 := f245.ext E240
          have f247 := f246.ext E241
          have f248 := F238_positions.ext E239
          have f249 := f248.ext E240
          have f250 := f249.ext E241
          have f251 := F238_arrivals.ext E239
          have f252 := f251.ext E240
          have f253 := f252.ext E241
          have f254 := F238_departures.ext E239
          have f255 := f254.ext E240
          have f256 := f255.ext E241
          have f257 := F238_kinds.ext E239
          have f258 := f257.ext E240
          have f259 := f258.ext E241
          refine Ends.callI X241 hx hZ hown (hw _ (List.mem_of_getElem? (i := 13) rfl)) (hw _ (List.mem_of_getElem? (i := 14) rfl)) (hw _ (List.mem_of_getElem? (i := 11) rfl)) (hw _ (List.mem_of_getElem? (i := 15) rfl)) rfl (by decide) (argsL := [(.ref b224), (.ref b225), (.ref b239), (.ref b240), (.ref b241)]) (rest := [(.ref b238)]) e241 (rm2 l Z a0 hw b238 b224 b225 b239 b240 b241 h241 f244 f247 f250 f253 f256 f259) (W := 1) (by decide) (by decide) (by rw [hml]; rfl) (lenOf pd_2 rfl) (Nat.le_of_eq rfl) (hb hby at_307) (by decide) (by decide) rfl ?_
          rintro T260 v260 L260 X260 ⟨rfl, hO260, hFt260, hFp260⟩
          have e260 : T260.heap = T260.heap := rfl
          have O260 := O241.call hO260 (allS (Or.inr ge_b238) all0)
          show Ends p e below s _ _ _ T260 (mkF m 310 #[.val (.int vx), .val (.int vy), .val (.long vh), .second, .val (.int vs), .val (.int vt), .val (.int vp), .val (.int tB), .val (.int pB), .val (.int dp0), .val (.int dt1), .val (.int dp1), .val (.int dt2), .val (.int dp2), .val (.int dt3), .val (.int dp3), .val (.int tB), .val (.int p0), .val (.int t1), .val (.int p1), .val (.int t2), .val (.int p2), .val (.int t3), .val (.int p3), .val (.int (3 : Int32)), .val (.ref b224), .val (.ref b225), .unset, .unset, .unset, .unset, .unset, .unset, .unset, .unset] [(.ref b238)])
          refine E.astore (q := 312) (l' := #[.val (.int vx), .val (.int vy), .val (.long vh), .second, .val (.int vs), .val (.int vt), .val (.int vp), .val (.int tB), .val (.int pB), .val (.int dp0), .val (.int dt1), .val (.int dp1), .val (.int dt2), .val (.int dp2), .val (.int dt3), .val (.int dp3), .val (.int tB), .val (.int p0), .val (.int t1), .val (.int p1), .val (.int t2), .val (.int p2), .val (.int t3), .val (.int p3), .val (.int (3 : Int32)), .val (.ref b224), .val (.ref b225), .val (.ref b238), .unset, .unset, .unset, .unset, .unset, .unset, .unset]) X260 hx (hb hby at_310) rfl rfl ?_
          refine E.iload (q := 314) X260 hx (hb hby at_312) rfl ?_
          refine E.istore (q := 316) (l' := #[.val (.int vx), .val (.int vy), .val (.long vh), .second, .val (.int vs), .val (.int vt), .val (.int vp), .val (.int tB), .val (.int pB), .val (.int dp0), .val (.int dt1), .val (.int dp1), .val (.int dt2), .val (.int dp2), .val (.int dt3), .val (.int dp3), .val (.int tB), .val (.int p0), .val (.int t1), .val (.int p1), .val (.int t2), .val (.int p2), .val (.int t3), .val (.int p3), .val (.int (3 : Int32)), .val (.ref b224), .val (.ref b225), .val (.ref b238), .val (.int vt), .unset, .unset, .unset, .unset, .unset, .unset]) X260 hx (hb hby at_314) rfl ?_
          refine E.iload (q := 318) X260 hx (hb hby at_316) rfl ?_
          refine E.istore (q := 320) (l' := #[.val (.int vx), .val (.int vy), .val (.long vh), .second, .val (.int vs), .val (.int vt), .val (.int vp), .val (.int tB), .val (.int pB), .val (.int dp0), .val (.int dt1), .val (.int dp1), .val (.int dt2), .val (.int dp2), .val (.int dt3), .val (.int dp3), .val (.int tB), .val (.int p0), .val (.int t1), .val (.int p1), .val (.int t2), .val (.int p2), .val (.int t3), .val (.int p3), .val (.int (3 : Int32)), .val (.ref b224), .val (.ref b225), .val (.ref b238), .val (.int vt), .val (.int vp), .unset, .unset, .unset, .unset, .unset]) X260 hx (hb hby at_318) rfl ?_
          refine E.iload (q := 322) X260 hx (hb hby at_320) rfl ?_
          refine E.iconst (q := 323) (v := (3 : Int32)) X260 hx (hb hby at_322) rfl ?_
          refine E.iushr (q := 324) X260 hx (hb hby at_323) ?_
          refine E.iconst (q := 325) (v := (3 : Int32)) X260 hx (hb hby at_324) rfl ?_
          refine E.iand (q := 326) X260 hx (hb hby at_325) ?_
          refine E.istore (q := 328) (l' := #[.val (.int vx), .val (.int vy), .val (.long vh), .second, .val (.int vs), .val (.int vt), .val (.int vp), .val (.int tB), .val (.int pB), .val (.int dp0), .val (.int dt1), .val (.int dp1), .val (.int dt2), .val (.int dp2), .val (.int dt3), .val (.int dp3), .val (.int tB), .val (.int p0), .val (.int t1), .val (.int p1), .val (.int t2), .val (.int p2), .val (.int t3), .val (.int p3), .val (.int (3 : Int32)), .val (.ref b224), .val (.ref b225), .val (.ref b238), .val (.int vt), .val (.int vp), .val (.int (((vs.toUInt32 >>> ((3 : Int32) &&& 31).toUInt32).toInt32) &&& (3 : Int32))), .unset, .unset, .unset, .unset]) X260 hx (hb hby at_326) rfl ?_
          refine E.iload (q := 330) X260 hx (hb hby at_328) rfl ?_
          refine E.ifN (q := 333) X260 hx (hb hby at_330) (XT.i0_le_f (by decide)) ?_
          refine E.iload (q := 335) X260 hx (hb hby at_333) rfl ?_
          obtain ⟨lq261, cq261, sq261, Xp261, Op261, hcq261, hsq261⟩ : ∃ (lq : List Loc) (cq sq : Nat), Stand p l e room_1 s m #[(.int vx), (.int vy), (.long vh), (.int vs), (.int vt), (.int vp)] below meth c T260 lq cq sq ∧ Ok h0 T260.heap [] lq ∧ cq = 6 ∧ sq = 20 := ⟨_, _, _, X260, O260, rfl, rfl⟩
          subst hcq261 hsq261
          have JQ : ∀ (Tq : State) (tq pq : Int32) (s30 s31 s32 s33 s34 : Slot), Stand p l e room_1 s m #[(.int vx), (.int vy), (.long vh), (.int vs), (.int vt), (.int vp)] below meth c Tq lq261 6 20 → Tq.heap = T260.heap → (s31 = .unset ∨ ∃ w, s31 = .val w ∧ w.category = 1) → Ends p e below s (fun v h L => v = some (.int 1) ∧ Fr h0.size L) room_1.cells room_1.slots Tq (mkF m 438 #[.val (.int vx), .val (.int vy), .val (.long vh), .second, .val (.int vs), .val (.int vt), .val (.int vp), .val (.int tB), .val (.int pB), .val (.int dp0), .val (.int dt1), .val (.int dp1), .val (.int dt2), .val (.int dp2), .val (.int dt3), .val (.int dp3), .val (.int tB), .val (.int p0), .val (.int t1), .val (.int p1), .val (.int t2), .val (.int p2), .val (.int t3), .val (.int p3), .val (.int (3 : Int32)), .val (.ref b224), .val (.ref b225), .val (.ref b238), .val (.int tq), .val (.int pq), s30, s31, s32, s33, s34] []) := by
            intro Tq tq pq s30 s31 s32 s33 s34 Xq eq_ h31
            show Ends p e below s _ _ _ Tq (mkF m 438 #[.val (.int vx), .val (.int vy), .val (.long vh), .second, .val (.int vs), .val (.int vt), .val (.int vp), .val (.int tB), .val (.int pB), .val (.int dp0), .val (.int dt1), .val (.int dp1), .val (.int dt2), .val (.int dp2), .val (.int dt3), .val (.int dp3), .val (.int tB), .val (.int p0), .val (.int t1), .val (.int p1), .val (.int t2), .val (.int p2), .val (.int t3), .val (.int p3), .val (.int (3 : Int32)), .val (.ref b224), .val (.ref b225), .val (.ref b238), .val (.int tq), .val (.int pq), s30, s31, s32, s33, s34] [])
            refine E.iconst (q := 439) (v := (-1 : Int32)) Xq hx (hb hby at_438) rfl ?_
            refine E.istore (q := 441) (l' := #[.val (.int vx), .val (.int vy), .val (.long vh), .second, .val (.int vs), .val (.int vt), .val (.int vp), .val (.int tB), .val (.int pB), .val (.int dp0), .val (.int dt1), .val (.int dp1), .val (.int dt2), .val (.int dp2), .val (.int dt3), .val (.int dp3), .val (.int tB), .val (.int p0), .val (.int t1), .val (.int p1), .val (.int t2), .val (.int p2), .val (.int t3), .val (.int p3), .val (.int (3 : Int32)), .val (.ref b224), .val (.ref b225), .val (.ref b238), .val (.int tq), .val (.int pq), s30, .val (.int (-1 : Int32)), s32, s33, s34]) Xq hx (hb hby at_439) (XS.store1 rfl h31 rfl) ?_
            refine E.iload (q := 443) Xq hx (hb hby at_441) rfl ?_
            refine E.ifN (q := 446) Xq hx (hb hby at_443) (XT.i0_le_f (by decide)) ?_
            refine E.iload (q := 448) Xq hx (hb hby at_446) rfl ?_
            refine E.iload (q := 450) Xq hx (hb hby at_448) rfl ?_
            have JE0 : Ends p e below s (fun v h L => v = some (.int 1) ∧ Fr h0.size L) room_1.cells room_1.slots Tq (mkF m 463 #[.val (.int vx), .val (.int vy), .val (.long vh), .second, .val (.int vs), .val (.int vt), .val (.int vp), .val (.int tB), .val (.int pB), .val (.int dp0), .val (.int dt1), .val (.int dp1), .val (.int dt2), .val (.int dp2), .val (.int dt3), .val (.int dp3), .val (.int tB), .val (.int p0), .val (.int t1), .val (.int p1), .val (.int t2), .val (.int p2), .val (.int t3), .val (.int p3), .val (.int (3 : Int32)), .val (.ref b224), .val (.ref b225), .val (.ref b238), .val (.int tq), .val (.int pq), s30, .val (.int (if tq = tB ∧ pq = p0 then (0 : Int32) else (-1 : Int32))), s32, s33, s34] []) := by
              show Ends p e below s _ _ _ Tq (mkF m 463 #[.val (.int vx), .val (.int vy), .val (.long vh), .second, .val (.int vs), .val (.int vt), .val (.int vp), .val (.int tB), .val (.int pB), .val (.int dp0), .val (.int dt1), .val (.int dp1), .val (.int dt2), .val (.int dp2), .val (.int dt3), .val (.int dp3), .val (.int tB), .val (.int p0), .val (.int t1), .val (.int p1), .val (.int t2), .val (.int p2), .val (.int t3), .val (.int p3), .val (.int (3 : Int32)), .val (.ref b224), .val (.ref b225), .val (.ref b238), .val (.int tq), .val (.int pq), s30, .val (.int (if tq = tB ∧ pq = p0 then (0 : Int32) else (-1 : Int32))), s32, s33, s34] [])
              refine E.iload (q := 465) Xq hx (hb hby at_463) rfl ?_
              refine E.iconst (q := 466) (v := (1 : Int32)) Xq hx (hb hby at_465) rfl ?_
              refine E.icmpN (q := 469) Xq hx (hb hby at_466) (XT.ii_le_f (by decide)) ?_
              refine E.iload (q := 471) Xq hx (hb hby at_469) rfl ?_
              refine E.iload (q := 473) Xq hx (hb hby at_471) rfl ?_
              have JE1 : Ends p e below s (fun v h L => v = some (.int 1) ∧ Fr h0.size L) room_1.cells room_1.slots Tq (mkF m 486 #[.val (.int vx), .val (.int vy), .val (.long vh), .second, .val (.int vs), .val (.int vt), .val (.int vp), .val (.int tB), .val (.int pB), .val (.int dp0), .val (.int dt1), .val (.int dp1), .val (.int dt2), .val (.int dp2), .val (.int dt3), .val (.int dp3), .val (.int tB), .val (.int p0), .val (.int t1), .val (.int p1), .val (.int t2), .val (.int p2), .val (.int t3), .val (.int p3), .val (.int (3 : Int32)), .val (.ref b224), .val (.ref b225), .val (.ref b238), .val (.int tq), .val (.int pq), s30, .val (.int (if tq = t1 ∧ pq = p1 then (1 : Int32) else (if tq = tB ∧ pq = p0 then (0 : Int32) else (-1 : Int32)))), s32, s33, s34] []) := by
                show Ends p e below s _ _ _ Tq (mkF m 486 #[.val (.int vx), .val (.int vy), .val (.long vh), .second, .val (.int vs), .val (.int vt), .val (.int vp), .val (.int tB), .val (.int pB), .val (.int dp0), .val (.int dt1), .val (.int dp1), .val (.int dt2), .val (.int dp2), .val (.int dt3), .val (.int dp3), .val (.int tB), .val (.int p0), .val (.int t1), .val (.int p1), .val (.int t2), .val (.int p2), .val (.int t3), .val (.int p3), .val (.int (3 : Int32)), .val (.ref b224), .val (.ref b225), .val (.ref b238), .val (.int tq), .val (.int pq), s30, .val (.int (if tq = t1 ∧ pq = p1 then (1 : Int32) else (if tq = tB ∧ pq = p0 then (0 : Int32) else (-1 : Int32)))), s32, s33, s34] [])
                refine E.iload (q := 488) Xq hx (hb hby at_486) rfl ?_
                refine E.iconst (q := 489) (v := (2 : Int32)) Xq hx (hb hby at_488) rfl ?_
                refine E.icmpN (q := 492) Xq hx (hb hby at_489) (XT.ii_le_f (by decide)) ?_
                refine E.iload (q := 494) Xq hx (hb hby at_492) rfl ?_
                refine E.iload (q := 496) Xq hx (hb hby at_494) rfl ?_
                have JE2 : Ends p e below s (fun v h L => v = some (.int 1) ∧ Fr h0.size L) room_1.cells room_1.slots Tq (mkF m 509 #[.val (.int vx), .val (.int vy), .val (.long vh), .second, .val (.int vs), .val (.int vt), .val (.int vp), .val (.int tB), .val (.int pB), .val (.int dp0), .val (.int dt1), .val (.int dp1), .val (.int dt2), .val (.int dp2), .val (.int dt3), .val (.int dp3), .val (.int tB), .val (.int p0), .val (.int t1), .val (.int p1), .val (.int t2), .val (.int p2), .val (.int t3), .val (.int p3), .val (.int (3 : Int32)), .val (.ref b224), .val (.ref b225), .val (.ref b238), .val (.int tq), .val (.int pq), s30, .val (.int (if tq = t2 ∧ pq = p2 then (2 : Int32) else (if tq = t1 ∧ pq = p1 then (1 : Int32) else (if tq = tB ∧ pq = p0 then (0 : Int32) else (-1 : Int32))))), s32, s33, s34] []) := by
                  show Ends p e below s _ _ _ Tq (mkF m 509 #[.val (.int vx), .val (.int vy), .val (.long vh), .second, .val (.int vs), .val (.int vt), .val (.int vp), .val (.int tB), .val (.int pB), .val (.int dp0), .val (.int dt1), .val (.int dp1), .val (.int dt2), .val (.int dp2), .val (.int dt3), .val (.int dp3), .val (.int tB), .val (.int p0), .val (.int t1), .val (.int p1), .val (.int t2), .val (.int p2), .val (.int t3), .val (.int p3), .val (.int (3 : Int32)), .val (.ref b224), .val (.ref b225), .val (.ref b238), .val (.int tq), .val (.int pq), s30, .val (.int (if tq = t2 ∧ pq = p2 then (2 : Int32) else (if tq = t1 ∧ pq = p1 then (1 : Int32) else (if tq = tB ∧ pq = p0 then (0 : Int32) else (-1 : Int32))))), s32, s33, s34] [])
                  refine E.iload (q := 511) Xq hx (hb hby at_509) rfl ?_
                  refine E.iconst (q := 512) (v := (3 : Int32)) Xq hx (hb hby at_511) rfl ?_
                  refine E.icmpY (q := 532) Xq hx (hb hby at_512) (XT.ii_le_t (by decide)) ?_
                  refine E.aload (q := 534) Xq hx (hb hby at_532) rfl rfl ?_
                  refine E.iload (q := 536) Xq hx (hb hby at_534) rfl ?_
                  refine E.iload (q := 538) Xq hx (hb hby at_536) rfl ?_
                  have f264 := V235.other W237 (Nat.ne_of_lt (Nat.lt_of_lt_of_eq V224.lt g225.symm))
                  have f265 := f264.ext E238
                  have f266 := f265.ext E239
                  have f267 := f266.ext E240
                  have f268 := f267.ext E241
                  have f269 := f268.keep hO260.1 (ninS (Nat.ne_of_lt (Nat.lt_of_lt_of_eq f264.lt g238.symm)) nin0)
                  have f270 := V237.ext E238
                  have f271 := f270.ext E239
                  have f272 := f271.ext E240
                  have f273 := f272.ext E241
                  have f274 := f273.keep hO260.1 (ninS (Nat.ne_of_lt (Nat.lt_of_lt_of_eq V237.lt g238.symm)) nin0)
                  have f275 := f244.keep hO260.1
                  refine Ends.callV Xq hx hZ hown (hw _ (List.mem_of_getElem? (i := 34) rfl)) (hw _ (List.mem_of_getElem? (i := 35) rfl)) (hw _ (List.mem_of_getElem? (i := 37) rfl)) (hw _ (List.mem_of_getElem? (i := 36) rfl)) (hw _ (List.mem_of_getElem? (i := 11) rfl)) (hw _ (List.mem_of_getElem? (i := 38) rfl)) (by decide) (argsL := [(.int tq), (.int pq)]) (rest := []) eq_ f275 (rmF3 l Z a0 hw b238 tq pq b224 b225 tB p0 t1 p1 t2 p2 T260.heap hFt260 hFp260 f269 f274 S0 S1) (W := 0) (by decide) (by decide) (by rw [hml]; rfl) (lenOf pd_1 rfl) (Nat.le_of_eq rfl) (hb hby at_538) (by decide) (by decide) rfl ?_
                  rintro T276 v276 L276 X276 ⟨rfl, e276, rfl⟩
                  rw [List.append_nil] at X276
                  show Ends p e below s _ _ _ T276 (mkF m 541 #[.val (.int vx), .val (.int vy), .val (.long vh), .second, .val (.int vs), .val (.int vt), .val (.int vp), .val (.int tB), .val (.int pB), .val (.int dp0), .val (.int dt1), .val (.int dp1), .val (.int dt2), .val (.int dp2), .val (.int dt3), .val (.int dp3), .val (.int tB), .val (.int p0), .val (.int t1), .val (.int p1), .val (.int t2), .val (.int p2), .val (.int t3), .val (.int p3), .val (.int (3 : Int32)), .val (.ref b224), .val (.ref b225), .val (.ref b238), .val (.int tq), .val (.int pq), s30, .val (.int (if tq = t2 ∧ pq = p2 then (2 : Int32) else (if tq = t1 ∧ pq = p1 then (1 : Int32) else (if tq = tB ∧ pq = p0 then (0 : Int32) else (-1 : Int32))))), s32, s33, s34] [(.int (if tq = t2 ∧ pq = p2 then (2 : Int32) else (if tq = t1 ∧ pq = p1 then (1 : Int32) else (if tq = tB ∧ pq = p0 then (0 : Int32) else (-1 : Int32)))))])
                  refine E.iload (q := 543) X276 hx (hb hby at_541) rfl ?_
                  refine E.icmpN (q := 546) X276 hx (hb hby at_543) (XT.ii_ne_f rfl) ?_
                  refine E.iconst (q := 547) (v := (1 : Int32)) X276 hx (hb hby at_546) rfl ?_
                  refine E.goto (q := 551) X276 hx (hb hby at_547) ?_
                  exact Ends.retS X276 hx hlk hret (by simp) rfl (hb hby at_551) (by decide) (by decide) ⟨rfl, Op261.fr⟩
                by_cases ha2 : tq = t2
                · refine E.icmpN (q := 499) Xq hx (hb hby at_496) (XT.ii_ne_f ha2) ?_
                  refine E.iload (q := 501) Xq hx (hb hby at_499) rfl ?_
                  refine E.iload (q := 503) Xq hx (hb hby at_501) rfl ?_
                  by_cases hbb2 : pq = p2
                  · refine E.icmpN (q := 506) Xq hx (hb hby at_503) (XT.ii_ne_f hbb2) ?_
                    refine E.iconst (q := 507) (v := (2 : Int32)) Xq hx (hb hby at_506) rfl ?_
                    refine E.istore (q := 509) (l' := #[.val (.int vx), .val (.int vy), .val (.long vh), .second, .val (.int vs), .val (.int vt), .val (.int vp), .val (.int tB), .val (.int pB), .val (.int dp0), .val (.int dt1), .val (.int dp1), .val (.int dt2), .val (.int dp2), .val (.int dt3), .val (.int dp3), .val (.int tB), .val (.int p0), .val (.int t1), .val (.int p1), .val (.int t2), .val (.int p2), .val (.int t3), .val (.int p3), .val (.int (3 : Int32)), .val (.ref b224), .val (.ref b225), .val (.ref b238), .val (.int tq), .val (.int pq), s30, .val (.int (2 : Int32)), s32, s33, s34]) Xq hx (hb hby at_507) rfl ?_
                    rw [show (if tq = t2 ∧ pq = p2 then (2 : Int32) else (if tq = t1 ∧ pq = p1 then (1 : Int32) else (if tq = tB ∧ pq = p0 then (0 : Int32) else (-1 : Int32)))) = (2 : Int32) from if_pos ⟨ha2, hbb2⟩] at JE2
                    exact JE2
                  · refine E.icmpY (q := 509) Xq hx (hb hby at_503) (XT.ii_ne_t hbb2) ?_
                    rw [show (if tq = t2 ∧ pq = p2 then (2 : Int32) else (if tq = t1 ∧ pq = p1 then (1 : Int32) else (if tq = tB ∧ pq = p0 then (0 : Int32) else (-1 : Int32)))) = (if tq = t1 ∧ pq = p1 then (1 : Int32) else (if tq = tB ∧ pq = p0 then (0 : Int32) else (-1 : Int32))) from if_neg (fun q => hbb2 q.2)] at JE2
                    exact JE2
                · refine E.icmpY (q := 509) Xq hx (hb hby at_496) (XT.ii_ne_t ha2) ?_
                  rw [show (if tq = t2 ∧ pq = p2 then (2 : Int32) else (if tq = t1 ∧ pq = p1 then (1 : Int32) else (if tq = tB ∧ pq = p0 then (0 : Int32) else (-1 : Int32)))) = (if tq = t1 ∧ pq = p1 then (1 : Int32) else (if tq = tB ∧ pq = p0 then (0 : Int32) else (-1 : Int32))) from if_neg (fun q => ha2 q.1)] at JE2
                  exact JE2
              by_cases ha1 : tq = t1
              · refine E.icmpN (q := 476) Xq hx (hb hby at_473) (XT.ii_ne_f ha1) ?_
                refine E.iload (q := 478) Xq hx (hb hby at_476) rfl ?_
                refine E.iload (q := 480) Xq hx (hb hby at_478) rfl ?_
                by_cases hbb1 : pq = p1
                · refine E.icmpN (q := 483) Xq hx (hb hby at_480) (XT.ii_ne_f hbb1) ?_
                  refine E.iconst (q := 484) (v := (1 : Int32)) Xq hx (hb hby at_483) rfl ?_
                  refine E.istore (q := 486) (l' := #[.val (.int vx), .val (.int vy), .val (.long vh), .second, .val (.int vs), .val (.int vt), .val (.int vp), .val (.int tB), .val (.int pB), .val (.int dp0), .val (.int dt1), .val (.int dp1), .val (.int dt2), .val (.int dp2), .val (.int dt3), .val (.int dp3), .val (.int tB), .val (.int p0), .val (.int t1), .val (.int p1), .val (.int t2), .val (.int p2), .val (.int t3), .val (.int p3), .val (.int (3 : Int32)), .val (.ref b224), .val (.ref b225), .val (.ref b238), .val (.int tq), .val (.int pq), s30, .val (.int (1 : Int32)), s32, s33, s34]) Xq hx (hb hby at_484) rfl ?_
                  rw [show (if tq = t1 ∧ pq = p1 then (1 : Int32) else (if tq = tB ∧ pq = p0 then (0 : Int32) else (-1 : Int32))) = (1 : Int32) from if_pos ⟨ha1, hbb1⟩] at JE1
                  exact JE1
                · refine E.icmpY (q := 486) Xq hx (hb hby at_480) (XT.ii_ne_t hbb1) ?_
                  rw [show (if tq = t1 ∧ pq = p1 then (1 : Int32) else (if tq = tB ∧ pq = p0 then (0 : Int32) else (-1 : Int32))) = (if tq = tB ∧ pq = p0 then (0 : Int32) else (-1 : Int32)) from if_neg (fun q => hbb1 q.2)] at JE1
                  exact JE1
              · refine E.icmpY (q := 486) Xq hx (hb hby at_473) (XT.ii_ne_t ha1) ?_
                rw [show (if tq = t1 ∧ pq = p1 then (1 : Int32) else (if tq = tB ∧ pq = p0 then (0 : Int32) else (-1 : Int32))) = (if tq = tB ∧ pq = p0 then (0 : Int32) else (-1 : Int32)) from if_neg (fun q => ha1 q.1)] at JE1
                exact JE1
            by_cases ha0 : tq = tB
            · refine E.icmpN (q := 453) Xq hx (hb hby at_450) (XT.ii_ne_f ha0) ?_
              refine E.iload (q := 455) Xq hx (hb hby at_453) rfl ?_
              refine E.iload (q := 457) Xq hx (hb hby at_455) rfl ?_
              by_cases hbb0 : pq = p0
              · refine E.icmpN (q := 460) Xq hx (hb hby at_457) (XT.ii_ne_f hbb0) ?_
                refine E.iconst (q := 461) (v := (0 : Int32)) Xq hx (hb hby at_460) rfl ?_
                refine E.istore (q := 463) (l' := #[.val (.int vx), .val (.int vy), .val (.long vh), .second, .val (.int vs), .val (.int vt), .val (.int vp), .val (.int tB), .val (.int pB), .val (.int dp0), .val (.int dt1), .val (.int dp1), .val (.int dt2), .val (.int dp2), .val (.int dt3), .val (.int dp3), .val (.int tB), .val (.int p0), .val (.int t1), .val (.int p1), .val (.int t2), .val (.int p2), .val (.int t3), .val (.int p3), .val (.int (3 : Int32)), .val (.ref b224), .val (.ref b225), .val (.ref b238), .val (.int tq), .val (.int pq), s30, .val (.int (0 : Int32)), s32, s33, s34]) Xq hx (hb hby at_461) rfl ?_
                rw [show (if tq = tB ∧ pq = p0 then (0 : Int32) else (-1 : Int32)) = (0 : Int32) from if_pos ⟨ha0, hbb0⟩] at JE0
                exact JE0
              · refine E.icmpY (q := 463) Xq hx (hb hby at_457) (XT.ii_ne_t hbb0) ?_
                rw [show (if tq = tB ∧ pq = p0 then (0 : Int32) else (-1 : Int32)) = (-1 : Int32) from if_neg (fun q => hbb0 q.2)] at JE0
                exact JE0
            · refine E.icmpY (q := 463) Xq hx (hb hby at_450) (XT.ii_ne_t ha0) ?_
              rw [show (if tq = tB ∧ pq = p0 then (0 : Int32) else (-1 : Int32)) = (-1 : Int32) from if_neg (fun q => ha0 q.1)] at JE0
              exact JE0
          by_cases hm335 : (((vs.toUInt32 >>> ((3 : Int32) &&& 31).toUInt32).toInt32) &&& (3 : Int32)) = (0 : Int32)
          · refine E.ifY (q := 438) Xp261 hx (hb hby at_335) (XT.i0_eq_t hm335) ?_
            exact JQ _ _ _ _ _ _ _ _ Xp261 e260 (Or.inl rfl)
          · refine E.ifN (q := 338) Xp261 hx (hb hby at_335) (XT.i0_eq_f hm335) ?_
            refine E.iload (q := 340) Xp261 hx (hb hby at_338) rfl ?_
            refine E.iconst (q := 341) (v := (5 : Int32)) Xp261 hx (hb hby at_340) rfl ?_
            refine E.iushr (q := 342) Xp261 hx (hb hby at_341) ?_
            refine E.iconst (q := 343) (v := (3 : Int32)) Xp261 hx (hb hby at_342) rfl ?_
            refine E.iand (q := 344) Xp261 hx (hb hby at_343) ?_
            refine E.iload (q := 346) Xp261 hx (hb hby at_344) rfl ?_
            refine E.irem (q := 347) Xp261 hx (hb hby at_346) (by decide) ?_
            refine E.istore (q := 349) (l' := #[.val (.int vx), .val (.int vy), .val (.long vh), .second, .val (.int vs), .val (.int vt), .val (.int vp), .val (.int tB), .val (.int pB), .val (.int dp0), .val (.int dt1), .val (.int dp1), .val (.int dt2), .val (.int dp2), .val (.int dt3), .val (.int dp3), .val (.int tB), .val (.int p0), .val (.int t1), .val (.int p1), .val (.int t2), .val (.int p2), .val (.int t3), .val (.int p3), .val (.int (3 : Int32)), .val (.ref b224), .val (.ref b225), .val (.ref b238), .val (.int vt), .val (.int vp), .val (.int (((vs.toUInt32 >>> ((3 : Int32) &&& 31).toUInt32).toInt32) &&& (3 : Int32))), .val (.int ((((vs.toUInt32 >>> ((5 : Int32) &&& 31).toUInt32).toInt32) &&& (3 : Int32)) % (3 : Int32))), .unset, .unset, .unset]) Xp261 hx (hb hby at_347) rfl ?_
            refine E.iload (q := 351) Xp261 hx (hb hby at_349) rfl ?_
            refine E.iload (q := 353) Xp261 hx (hb hby at_351) rfl ?_
            refine E.iload (q := 355) Xp261 hx (hb hby at_353) rfl ?_
            refine E.iload (q := 357) Xp261 hx (hb hby at_355) rfl ?_
            refine E.iload (q := 359) Xp261 hx (hb hby at_357) rfl ?_
            refine Ends.callS Xp261 hx hZ hown (hw _ (List.mem_of_getElem? (i := 39) rfl)) (hw _ (List.mem_of_getElem? (i := 40) rfl)) (hw _ (List.mem_of_getElem? (i := 41) rfl)) (hw _ (List.mem_of_getElem? (i := 42) rfl)) (by decide) (argsL := [(.int ((((vs.toUInt32 >>> ((5 : Int32) &&& 31).toUInt32).toInt32) &&& (3 : Int32)) % (3 : Int32))), (.int tB), (.int t1), (.int t2), (.int t3)]) (rest := []) e260 (rm6 l Z a0 hw ((((vs.toUInt32 >>> ((5 : Int32) &&& 31).toUInt32).toInt32) &&& (3 : Int32)) % (3 : Int32)) tB t1 t2 t3 T260.heap) (W := 0) (by decide) (by decide) (by rw [hml]; rfl) (lenOf pd_3 rfl) (Nat.le_of_eq rfl) (hb hby at_359) (by decide) (by decide) rfl ?_
            rintro T262 v262 L262 X262 ⟨z262, rfl, e262, rfl⟩
            rw [List.append_nil] at X262
            show Ends p e below s _ _ _ T262 (mkF m 362 #[.val (.int vx), .val (.int vy), .val (.long vh), .second, .val (.int vs), .val (.int vt), .val (.int vp), .val (.int tB), .val (.int pB), .val (.int dp0), .val (.int dt1), .val (.int dp1), .val (.int dt2), .val (.int dp2), .val (.int dt3), .val (.int dp3), .val (.int tB), .val (.int p0), .val (.int t1), .val (.int p1), .val (.int t2), .val (.int p2), .val (.int t3), .val (.int p3), .val (.int (3 : Int32)), .val (.ref b224), .val (.ref b225), .val (.ref b238), .val (.int vt), .val (.int vp), .val (.int (((vs.toUInt32 >>> ((3 : Int32) &&& 31).toUInt32).toInt32) &&& (3 : Int32))), .val (.int ((((vs.toUInt32 >>> ((5 : Int32) &&& 31).toUInt32).toInt32) &&& (3 : Int32)) % (3 : Int32))), .unset, .unset, .unset] [(.int z262)])
            refine E.istore (q := 364) (l' := #[.val (.int vx), .val (.int vy), .val (.long vh), .second, .val (.int vs), .val (.int vt), .val (.int vp), .val (.int tB), .val (.int pB), .val (.int dp0), .val (.int dt1), .val (.int dp1), .val (.int dt2), .val (.int dp2), .val (.int dt3), .val (.int dp3), .val (.int tB), .val (.int p0), .val (.int t1), .val (.int p1), .val (.int t2), .val (.int p2), .val (.int t3), .val (.int p3), .val (.int (3 : Int32)), .val (.ref b224), .val (.ref b225), .val (.ref b238), .val (.int vt), .val (.int vp), .val (.int (((vs.toUInt32 >>> ((3 : Int32) &&& 31).toUInt32).toInt32) &&& (3 : Int32))), .val (.int ((((vs.toUInt32 >>> ((5 : Int32) &&& 31).toUInt32).toInt32) &&& (3 : Int32)) % (3 : Int32))), .val (.int z262), .unset, .unset]) X262 hx (hb hby at_362) rfl ?_
            refine E.iload (q := 366) X262 hx (hb hby at_364) rfl ?_
            refine E.iload (q := 368) X262 hx (hb hby at_366) rfl ?_
            refine E.iload (q := 370) X262 hx (hb hby at_368) rfl ?_
            refine E.iload (q := 372) X262 hx (hb hby at_370) rfl ?_
            refine E.iload (q := 374) X262 hx (hb hby at_372) rfl ?_
            refine Ends.callS X262 hx hZ hown (hw _ (List.mem_of_getElem? (i := 39) rfl)) (hw _ (List.mem_of_getElem? (i := 40) rfl)) (hw _ (List.mem_of_getElem? (i := 41) rfl)) (hw _ (List.mem_of_getElem? (i := 42) rfl)) (by decide) (argsL := [(.int ((((vs.toUInt32 >>> ((5 : Int32) &&& 31).toUInt32).toInt32) &&& (3 : Int32)) % (3 : Int32))), (.int p0), (.int p1), (.int p2), (.int p3)]) (rest := []) e262 (rm6 l Z a0 hw ((((vs.toUInt32 >>> ((5 : Int32) &&& 31).toUInt32).toInt32) &&& (3 : Int32)) % (3 : Int32)) p0 p1 p2 p3 T260.heap) (W := 0) (by decide) (by decide) (by rw [hml]; rfl) (lenOf pd_3 rfl) (Nat.le_of_eq rfl) (hb hby at_374) (by decide) (by decide) rfl ?_
            rintro T263 v263 L263 X263 ⟨z263, rfl, e263, rfl⟩
            rw [List.append_nil] at X263
            show Ends p e below s _ _ _ T263 (mkF m 377 #[.val (.int vx), .val (.int vy), .val (.long vh), .second, .val (.int vs), .val (.int vt), .val (.int vp), .val (.int tB), .val (.int pB), .val (.int dp0), .val (.int dt1), .val (.int dp1), .val (.int dt2), .val (.int dp2), .val (.int dt3), .val (.int dp3), .val (.int tB), .val (.int p0), .val (.int t1), .val (.int p1), .val (.int t2), .val (.int p2), .val (.int t3), .val (.int p3), .val (.int (3 : Int32)), .val (.ref b224), .val (.ref b225), .val (.ref b238), .val (.int vt), .val (.int vp), .val (.int (((vs.toUInt32 >>> ((3 : Int32) &&& 31).toUInt32).toInt32) &&& (3 : Int32))), .val (.int ((((vs.toUInt32 >>> ((5 : Int32) &&& 31).toUInt32).toInt32) &&& (3 : Int32)) % (3 : Int32))), .val (.int z262), .unset, .unset] [(.int z263)])
            refine E.istore (q := 379) (l' := #[.val (.int vx), .val (.int vy), .val (.long vh), .second, .val (.int vs), .val (.int vt), .val (.int vp), .val (.int tB), .val (.int pB), .val (.int dp0), .val (.int dt1), .val (.int dp1), .val (.int dt2), .val (.int dp2), .val (.int dt3), .val (.int dp3), .val (.int tB), .val (.int p0), .val (.int t1), .val (.int p1), .val (.int t2), .val (.int p2), .val (.int t3), .val (.int p3), .val (.int (3 : Int32)), .val (.ref b224), .val (.ref b225), .val (.ref b238), .val (.int vt), .val (.int vp), .val (.int (((vs.toUInt32 >>> ((3 : Int32) &&& 31).toUInt32).toInt32) &&& (3 : Int32))), .val (.int ((((vs.toUInt32 >>> ((5 : Int32) &&& 31).toUInt32).toInt32) &&& (3 : Int32)) % (3 : Int32))), .val (.int z262), .val (.int z263), .unset]) X263 hx (hb hby at_377) rfl ?_
            refine E.iload (q := 381) X263 hx (hb hby at_379) rfl ?_
            refine E.ldc (q := 383) X263 hx hZ hown (hw _ (List.mem_of_getElem? (i := 0) rfl)) (hb hby at_381) ?_
            refine E.iand (q := 384) X263 hx (hb hby at_383) ?_
            refine E.iconst (q := 385) (v := (3 : Int32)) X263 hx (hb hby at_384) rfl ?_
            refine E.irem (q := 386) X263 hx (hb hby at_385) (by decide) ?_
            refine E.iconst (q := 387) (v := (1 : Int32)) X263 hx (hb hby at_386) rfl ?_
            refine E.isub (q := 388) X263 hx (hb hby at_387) ?_
            refine E.istore (q := 390) (l' := #[.val (.int vx), .val (.int vy), .val (.long vh), .second, .val (.int vs), .val (.int vt), .val (.int vp), .val (.int tB), .val (.int pB), .val (.int dp0), .val (.int dt1), .val (.int dp1), .val (.int dt2), .val (.int dp2), .val (.int dt3), .val (.int dp3), .val (.int tB), .val (.int p0), .val (.int t1), .val (.int p1), .val (.int t2), .val (.int p2), .val (.int t3), .val (.int p3), .val (.int (3 : Int32)), .val (.ref b224), .val (.ref b225), .val (.ref b238), .val (.int vt), .val (.int vp), .val (.int (((vs.toUInt32 >>> ((3 : Int32) &&& 31).toUInt32).toInt32) &&& (3 : Int32))), .val (.int ((((vs.toUInt32 >>> ((5 : Int32) &&& 31).toUInt32).toInt32) &&& (3 : Int32)) % (3 : Int32))), .val (.int z262), .val (.int z263), .val (.int (((vp &&& (2147483647 : Int32)) % (3 : Int32)) - (1 : Int32)))]) X263 hx (hb hby at_388) rfl ?_
            refine E.iload (q := 392) X263 hx (hb hby at_390) rfl ?_
            refine E.iconst (q := 393) (v := (1 : Int32)) X263 hx (hb hby at_392) rfl ?_
            by_cases hm393 : (((vs.toUInt32 >>> ((3 : Int32) &&& 31).toUInt32).toInt32) &&& (3 : Int32)) = (1 : Int32)
            · refine E.icmpN (q := 396) X263 hx (hb hby at_393) (XT.ii_ne_f hm393) ?_
              refine E.iload (q := 398) X263 hx (hb hby at_396) rfl ?_
              refine E.istore (q := 400) (l' := #[.val (.int vx), .val (.int vy), .val (.long vh), .second, .val (.int vs), .val (.int vt), .val (.int vp), .val (.int tB), .val (.int pB), .val (.int dp0), .val (.int dt1), .val (.int dp1), .val (.int dt2), .val (.int dp2), .val (.int dt3), .val (.int dp3), .val (.int tB), .val (.int p0), .val (.int t1), .val (.int p1), .val (.int t2), .val (.int p2), .val (.int t3), .val (.int p3), .val (.int (3 : Int32)), .val (.ref b224), .val (.ref b225), .val (.ref b238), .val (.int z262), .val (.int vp), .val (.int (((vs.toUInt32 >>> ((3 : Int32) &&& 31).toUInt32).toInt32) &&& (3 : Int32))), .val (.int ((((vs.toUInt32 >>> ((5 : Int32) &&& 31).toUInt32).toInt32) &&& (3 : Int32)) % (3 : Int32))), .val (.int z262), .val (.int z263), .val (.int (((vp &&& (2147483647 : Int32)) % (3 : Int32)) - (1 : Int32)))]) X263 hx (hb hby at_398) rfl ?_
              refine E.iload (q := 402) X263 hx (hb hby at_400) rfl ?_
              refine E.istore (q := 404) (l' := #[.val (.int vx), .val (.int vy), .val (.long vh), .second, .val (.int vs), .val (.int vt), .val (.int vp), .val (.int tB), .val (.int pB), .val (.int dp0), .val (.int dt1), .val (.int dp1), .val (.int dt2), .val (.int dp2), .val (.int dt3), .val (.int dp3), .val (.int tB), .val (.int p0), .val (.int t1), .val (.int p1), .val (.int t2), .val (.int p2), .val (.int t3), .val (.int p3), .val (.int (3 : Int32)), .val (.ref b224), .val (.ref b225), .val (.ref b238), .val (.int z262), .val (.int z263), .val (.int (((vs.toUInt32 >>> ((3 : Int32) &&& 31).toUInt32).toInt32) &&& (3 : Int32))), .val (.int ((((vs.toUInt32 >>> ((5 : Int32) &&& 31).toUInt32).toInt32) &&& (3 : Int32)) % (3 : Int32))), .val (.int z262), .val (.int z263), .val (.int (((vp &&& (2147483647 : Int32)) % (3 : Int32)) - (1 : Int32)))]) X263 hx (hb hby at_402) rfl ?_
              refine E.goto (q := 438) X263 hx (hb hby at_404) ?_
              exact JQ _ _ _ _ _ _ _ _ X263 e263 (Or.inr ⟨_, rfl, rfl⟩)
            · refine E.icmpY (q := 407) X263 hx (hb hby at_393) (XT.ii_ne_t hm393) ?_
              refine E.iload (q := 409) X263 hx (hb hby at_407) rfl ?_
              refine E.iconst (q := 410) (v := (2 : Int32)) X263 hx (hb hby at_409) rfl ?_
              by_cases hm410 : (((vs.toUInt32 >>> ((3 : Int32) &&& 31).toUInt32).toInt32) &&& (3 : Int32)) = (2 : Int32)
              · refine E.icmpN (q := 413) X263 hx (hb hby at_410) (XT.ii_ne_f hm410) ?_
                refine E.iload (q := 415) X263 hx (hb hby at_413) rfl ?_
                refine E.istore (q := 417) (l' := #[.val (.int vx), .val (.int vy), .val (.long vh), .second, .val (.int vs), .val (.int vt), .val (.int vp), .val (.int tB), .val (.int pB), .val (.int dp0), .val (.int dt1), .val (.int dp1), .val (.int dt2), .val (.int dp2), .val (.int dt3), .val (.int dp3), .val (.int tB), .val (.int p0), .val (.int t1), .val (.int p1), .val (.int t2), .val (.int p2), .val (.int t3), .val (.int p3), .val (.int (3 : Int32)), .val (.ref b224), .val (.ref b225), .val (.ref b238), .val (.int z262), .val (.int vp), .val (.int (((vs.toUInt32 >>> ((3 : Int32) &&& 31).toUInt32).toInt32) &&& (3 : Int32))), .val (.int ((((vs.toUInt32 >>> ((5 : Int32) &&& 31).toUInt32).toInt32) &&& (3 : Int32)) % (3 : Int32))), .val (.int z262), .val (.int z263), .val (.int (((vp &&& (2147483647 : Int32)) % (3 : Int32)) - (1 : Int32)))]) X263 hx (hb hby at_415) rfl ?_
                refine E.iload (q := 419) X263 hx (hb hby at_417) rfl ?_
                refine E.iload (q := 421) X263 hx (hb hby at_419) rfl ?_
                refine E.iadd (q := 422) X263 hx (hb hby at_421) ?_
                refine E.istore (q := 424) (l' := #[.val (.int vx), .val (.int vy), .val (.long vh), .second, .val (.int vs), .val (.int vt), .val (.int vp), .val (.int tB), .val (.int pB), .val (.int dp0), .val (.int dt1), .val (.int dp1), .val (.int dt2), .val (.int dp2), .val (.int dt3), .val (.int dp3), .val (.int tB), .val (.int p0), .val (.int t1), .val (.int p1), .val (.int t2), .val (.int p2), .val (.int t3), .val (.int p3), .val (.int (3 : Int32)), .val (.ref b224), .val (.ref b225), .val (.ref b238), .val (.int z262), .val (.int (z263 + (((vp &&& (2147483647 : Int32)) % (3 : Int32)) - (1 : Int32)))), .val (.int (((vs.toUInt32 >>> ((3 : Int32) &&& 31).toUInt32).toInt32) &&& (3 : Int32))), .val (.int ((((vs.toUInt32 >>> ((5 : Int32) &&& 31).toUInt32).toInt32) &&& (3 : Int32)) % (3 : Int32))), .val (.int z262), .val (.int z263), .val (.int (((vp &&& (2147483647 : Int32)) % (3 : Int32)) - (1 : Int32)))]) X263 hx (hb hby at_422) rfl ?_
                refine E.goto (q := 438) X263 hx (hb hby at_424) ?_
                exact JQ _ _ _ _ _ _ _ _ X263 e263 (Or.inr ⟨_, rfl, rfl⟩)
              · refine E.icmpY (q := 427) X263 hx (hb hby at_410) (XT.ii_ne_t hm410) ?_
                refine E.iload (q := 429) X263 hx (hb hby at_427) rfl ?_
                refine E.iload (q := 431) X263 hx (hb hby at_429) rfl ?_
                refine E.iadd (q := 432) X263 hx (hb hby at_431) ?_
                refine E.istore (q := 434) (l' := #[.val (.int vx), .val (.int vy), .val (.long vh), .second, .val (.int vs), .val (.int vt), .val (.int vp), .val (.int tB), .val (.int pB), .val (.int dp0), .val (.int dt1), .val (.int dp1), .val (.int dt2), .val (.int dp2), .val (.int dt3), .val (.int dp3), .val (.int tB), .val (.int p0), .val (.int t1), .val (.int p1), .val (.int t2), .val (.int p2), .val (.int t3), .val (.int p3), .val (.int (3 : Int32)), .val (.ref b224), .val (.ref b225), .val (.ref b238), .val (.int (z262 + (((vp &&& (2147483647 : Int32)) % (3 : Int32)) - (1 : Int32)))), .val (.int vp), .val (.int (((vs.toUInt32 >>> ((3 : Int32) &&& 31).toUInt32).toInt32) &&& (3 : Int32))), .val (.int ((((vs.toUInt32 >>> ((5 : Int32) &&& 31).toUInt32).toInt32) &&& (3 : Int32)) % (3 : Int32))), .val (.int z262), .val (.int z263), .val (.int (((vp &&& (2147483647 : Int32)) % (3 : Int32)) - (1 : Int32)))]) X263 hx (hb hby at_432) rfl ?_
                refine E.iload (q := 436) X263 hx (hb hby at_434) rfl ?_
                refine E.istore (q := 438) (l' := #[.val (.int vx), .val (.int vy), .val (.long vh), .second, .val (.int vs), .val (.int vt), .val (.int vp), .val (.int tB), .val (.int pB), .val (.int dp0), .val (.int dt1), .val (.int dp1), .val (.int dt2), .val (.int dp2), .val (.int dt3), .val (.int dp3), .val (.int tB), .val (.int p0), .val (.int t1), .val (.int p1), .val (.int t2), .val (.int p2), .val (.int t3), .val (.int p3), .val (.int (3 : Int32)), .val (.ref b224), .val (.ref b225), .val (.ref b238), .val (.int (z262 + (((vp &&& (2147483647 : Int32)) % (3 : Int32)) - (1 : Int32)))), .val (.int z263), .val (.int (((vs.toUInt32 >>> ((3 : Int32) &&& 31).toUInt32).toInt32) &&& (3 : Int32))), .val (.int ((((vs.toUInt32 >>> ((5 : Int32) &&& 31).toUInt32).toInt32) &&& (3 : Int32)) % (3 : Int32))), .val (.int z262), .val (.int z263), .val (.int (((vp &&& (2147483647 : Int32)) % (3 : Int32)) - (1 : Int32)))]) X263 hx (hb hby at_436) rfl ?_
                exact JQ _ _ _ _ _ _ _ _ X263 e263 (Or.inr ⟨_, rfl, rfl⟩)
        · subst hn
          show Ends p e below s _ _ _ T90 (mkF m 202 #[.val (.int vx), .val (.int vy), .val (.long vh), .second, .val (.int vs), .val (.int vt), .val (.int vp), .val (.int tB), .val (.int pB), .val (.int dp0), .val (.int dt1), .val (.int dp1), .val (.int dt2), .val (.int dp2), .val (.int dt3), .val (.int dp3), .val (.int tB), .val (.int p0), .val (.int t1), .val (.int p1), .val (.int t2), .val (.int p2), .val (.int t3), .val (.int p3), .unset, .unset, .unset, .unset, .unset, .unset, .unset, .unset, .unset, .unset, .unset] [(.int (4 : Int32))])
          refine E.istore (q := 204) (l' := #[.val (.int vx), .val (.int vy), .val (.long vh), .second, .val (.int vs), .val (.int vt), .val (.int vp), .val (.int tB), .val (.int pB), .val (.int dp0), .val (.int dt1), .val (.int dp1), .val (.int dt2), .val (.int dp2), .val (.int dt3), .val (.int dp3), .val (.int tB), .val (.int p0), .val (.int t1), .val (.int p1), .val (.int t2), .val (.int p2), .val (.int t3), .val (.int p3), .val (.int (4 : Int32)), .unset, .unset, .unset, .unset, .unset, .unset, .unset, .unset, .unset, .unset]) X90 hx (hb hby at_202) rfl ?_
          refine E.iload (q := 206) X90 hx (hb hby at_204) rfl ?_
          refine Ends.newA X90 hx hZ (hw _ (List.mem_of_getElem? (i := 8) rfl)) e90 (hb hby at_206) (N := 4) rfl (by decide) (by decide) (by decide) ?_
          intro T277 h277 b277 g277 X277 e277 E277 A277
          have ge_b277 : h0.size ≤ b277 := Nat.le_trans O0.le (Nat.le_of_eq g277.symm)
          have O277 := O0.ext E277
          have V277 : Ary Z h277 b277 .int [(.int (0 : Int32)), (.int (0 : Int32)), (.int (0 : Int32)), (.int (0 : Int32))] := A277
          refine E.astore (q := 210) (l' := #[.val (.int vx), .val (.int vy), .val (.long vh), .second, .val (.int vs), .val (.int vt), .val (.int vp), .val (.int tB), .val (.int pB), .val (.int dp0), .val (.int dt1), .val (.int dp1), .val (.int dt2), .val (.int dp2), .val (.int dt3), .val (.int dp3), .val (.int tB), .val (.int p0), .val (.int t1), .val (.int p1), .val (.int t2), .val (.int p2), .val (.int t3), .val (.int p3), .val (.int (4 : Int32)), .val (.ref b277), .unset, .unset, .unset, .unset, .unset, .unset, .unset, .unset, .unset]) X277 hx (hb hby at_208) rfl rfl ?_
          refine E.iload (q := 212) X277 hx (hb hby at_210) rfl ?_
          refine Ends.newA X277 hx hZ (hw _ (List.mem_of_getElem? (i := 8) rfl)) e277 (hb hby at_212) (N := 4) rfl (by decide) (by decide) (by decide) ?_
          intro T278 h278 b278 g278 X278 e278 E278 A278
          have ge_b278 : h0.size ≤ b278 := Nat.le_trans O277.le (Nat.le_of_eq g278.symm)
          have O278 := O277.ext E278
          have V278 : Ary Z h278 b278 .int [(.int (0 : Int32)), (.int (0 : Int32)), (.int (0 : Int32)), (.int (0 : Int32))] := A278
          refine E.astore (q := 216) (l' := #[.val (.int vx), .val (.int vy), .val (.long vh), .second, .val (.int vs), .val (.int vt), .val (.int vp), .val (.int tB), .val (.int pB), .val (.int dp0), .val (.int dt1), .val (.int dp1), .val (.int dt2), .val (.int dp2), .val (.int dt3), .val (.int dp3), .val (.int tB), .val (.int p0), .val (.int t1), .val (.int p1), .val (.int t2), .val (.int p2), .val (.int t3), .val (.int p3), .val (.int (4 : Int32)), .val (.ref b277), .val (.ref b278), .unset, .unset, .unset, .unset, .unset, .unset, .unset, .unset]) X278 hx (hb hby at_214) rfl rfl ?_
          refine E.iload (q := 218) X278 hx (hb hby at_216) rfl ?_
          refine E.ifN (q := 221) X278 hx (hb hby at_218) (XT.i0_le_f (by decide)) ?_
          refine E.aload (q := 223) X278 hx (hb hby at_221) rfl rfl ?_
          refine E.iconst (q := 224) (v := (0 : Int32)) X278 hx (hb hby at_223) rfl ?_
          refine E.iload (q := 226) X278 hx (hb hby at_224) rfl ?_
          have f279 := V277.ext E278
          refine Ends.ist X278 hx hZ e278 f279 (i := 0) rfl (show 0 < 4 from by decide) (hb hby at_226) ?_
          intro T280 h280 X280 e280 W280 V280
          have V280 : Ary Z h280 b277 .int [(.int tB), (.int (0 : Int32)), (.int (0 : Int32)), (.int (0 : Int32))] := V280
          have O280 := O278.wr W280 (Or.inr ge_b277)
          refine E.aload (q := 229) X280 hx (hb hby at_227) rfl rfl ?_
          refine E.iconst (q := 230) (v := (0 : Int32)) X280 hx (hb hby at_229) rfl ?_
          refine E.iload (q := 232) X280 hx (hb hby at_230) rfl ?_
          have f281 := V278.other W280 (Ne.symm (Nat.ne_of_lt (Nat.lt_of_lt_of_eq V277.lt g278.symm)))
          refine Ends.ist X280 hx hZ e280 f281 (i := 0) rfl (show 0 < 4 from by decide) (hb hby at_232) ?_
          intro T282 h282 X282 e282 W282 V282
          have V282 : Ary Z h282 b278 .int [(.int p0), (.int (0 : Int32)), (.int (0 : Int32)), (.int (0 : Int32))] := V282
          have O282 := O280.wr W282 (Or.inr ge_b278)
          refine E.iload (q := 235) X282 hx (hb hby at_233) rfl ?_
          refine E.iconst (q := 236) (v := (1 : Int32)) X282 hx (hb hby at_235) rfl ?_
          refine E.icmpN (q := 239) X282 hx (hb hby at_236) (XT.ii_le_f (by decide)) ?_
          refine E.aload (q := 241) X282 hx (hb hby at_239) rfl rfl ?_
          refine E.iconst (q := 242) (v := (1 : Int32)) X282 hx (hb hby at_241) rfl ?_
          refine E.iload (q := 244) X282 hx (hb hby at_242) rfl ?_
          have f283 := V280.other W282 (Nat.ne_of_lt (Nat.lt_of_lt_of_eq V277.lt g278.symm))
          refine Ends.ist X282 hx hZ e282 f283 (i := 1) rfl (show 1 < 4 from by decide) (hb hby at_244) ?_
          intro T284 h284 X284 e284 W284 V284
          have V284 : Ary Z h284 b277 .int [(.int tB), (.int t1), (.int (0 : Int32)), (.int (0 : Int32))] := V284
          have O284 := O282.wr W284 (Or.inr ge_b277)
          refine E.aload (q := 247) X284 hx (hb hby at_245) rfl rfl ?_
          refine E.iconst (q := 248) (v := (1 : Int32)) X284 hx (hb hby at_247) rfl ?_
          refine E.iload (q := 250) X284 hx (hb hby at_248) rfl ?_
          have f285 := V282.other W284 (Ne.symm (Nat.ne_of_lt (Nat.lt_of_lt_of_eq V277.lt g278.symm)))
          refine Ends.ist X284 hx hZ e284 f285 (i := 1) rfl (show 1 < 4 from by decide) (hb hby at_250) ?_
          intro T286 h286 X286 e286 W286 V286
          have V286 : Ary Z h286 b278 .int [(.int p0), (.int p1), (.int (0 : Int32)), (.int (0 : Int32))] := V286
          have O286 := O284.wr W286 (Or.inr ge_b278)
          refine E.iload (q := 253) X286 hx (hb hby at_251) rfl ?_
          refine E.iconst (q := 254) (v := (2 : Int32)) X286 hx (hb hby at_253) rfl ?_
          refine E.icmpN (q := 257) X286 hx (hb hby at_254) (XT.ii_le_f (by decide)) ?_
          refine E.aload (q := 259) X286 hx (hb hby at_257) rfl rfl ?_
          refine E.iconst (q := 260) (v := (2 : Int32)) X286 hx (hb hby at_259) rfl ?_
          refine E.iload (q := 262) X286 hx (hb hby at_260) rfl ?_
          have f287 := V284.other W286 (Nat.ne_of_lt (Nat.lt_of_lt_of_eq V277.lt g278.symm))
          refine Ends.ist X286 hx hZ e286 f287 (i := 2) rfl (show 2 < 4 from by decide) (hb hby at_262) ?_
          intro T288 h288 X288 e288 W288 V288
          have V288 : Ary Z h288 b277 .int [(.int tB), (.int t1), (.int t2), (.int (0 : Int32))] := V288
          have O288 := O286.wr W288 (Or.inr ge_b277)
          refine E.aload (q := 265) X288 hx (hb hby at_263) rfl rfl ?_
          refine E.iconst (q := 266) (v := (2 : Int32)) X288 hx (hb hby at_265) rfl ?_
          refine E.iload (q := 268) X288 hx (hb hby at_266) rfl ?_
          have f289 := V286.other W288 (Ne.symm (Nat.ne_of_lt (Nat.lt_of_lt_of_eq V277.lt g278.symm)))
          refine Ends.ist X288 hx hZ e288 f289 (i := 2) rfl (show 2 < 4 from by decide) (hb hby at_268) ?_
          intro T290 h290 X290 e290 W290 V290
          have V290 : Ary Z h290 b278 .int [(.int p0), (.int p1), (.int p2), (.int (0 : Int32))] := V290
          have O290 := O288.wr W290 (Or.inr ge_b278)
          refine E.iload (q := 271) X290 hx (hb hby at_269) rfl ?_
          refine E.iconst (q := 272) (v := (3 : Int32)) X290 hx (hb hby at_271) rfl ?_
          refine E.icmpN (q := 275) X290 hx (hb hby at_272) (XT.ii_le_f (by decide)) ?_
          refine E.aload (q := 277) X290 hx (hb hby at_275) rfl rfl ?_
          refine E.iconst (q := 278) (v := (3 : Int32)) X290 hx (hb hby at_277) rfl ?_
          refine E.iload (q := 280) X290 hx (hb hby at_278) rfl ?_
          have f291 := V288.other W290 (Nat.ne_of_lt (Nat.lt_of_lt_of_eq V277.lt g278.symm))
          refine Ends.ist X290 hx hZ e290 f291 (i := 3) rfl (show 3 < 4 from by decide) (hb hby at_280) ?_
          intro T292 h292 X292 e292 W292 V292
          have V292 : Ary Z h292 b277 .int [(.int tB), (.int t1), (.int t2), (.int t3)] := V292
          have O292 := O290.wr W292 (Or.inr ge_b277)
          refine E.aload (q := 283) X292 hx (hb hby at_281) rfl rfl ?_
          refine E.iconst (q := 284) (v := (3 : Int32)) X292 hx (hb hby at_283) rfl ?_
          refine E.iload (q := 286) X292 hx (hb hby at_284) rfl ?_
          have f293 := V290.other W292 (Ne.symm (Nat.ne_of_lt (Nat.lt_of_lt_of_eq V277.lt g278.symm)))
          refine Ends.ist X292 hx hZ e292 f293 (i := 3) rfl (show 3 < 4 from by decide) (hb hby at_286) ?_
          intro T294 h294 X294 e294 W294 V294
          have V294 : Ary Z h294 b278 .int [(.int p0), (.int p1), (.int p2), (.int p3)] := V294
          have O294 := O292.wr W294 (Or.inr ge_b278)
          refine Ends.newC X294 hx hZ hown (hw _ (List.mem_of_getElem? (i := 9) rfl)) (hw _ (List.mem_of_getElem? (i := 10) rfl)) (hw _ (List.mem_of_getElem? (i := 11) rfl)) e294 (hb hby at_287) (by decide) (by decide) ?_
          intro T295 h295 b295 g295 X295 e295 E295 A295 D295
          have ge_b295 : h0.size ≤ b295 := Nat.le_trans O294.le (Nat.le_of_eq g295.symm)
          have O295 := O294.ext E295
          have F295_trips : Fld Z h295 b295 "com/example/hourline/hourline/network/Timetable$Calls" "trips" "[I" .null := D295 (Or.inr (hw _ (List.mem_of_getElem? (i := 25) rfl))) (ty := (.array .int)) (by decide)
          have F295_positions : Fld Z h295 b295 "com/example/hourline/hourline/network/Timetable$Calls" "positions" "[I" .null := D295 (Or.inr (hw _ (List.mem_of_getElem? (i := 27) rfl))) (ty := (.array .int)) (by decide)
          have F295_arrivals : Fld Z h295 b295 "com/example/hourline/hourline/network/Timetable$Calls" "arrivals" "[I" .null := D295 (Or.inr (hw _ (List.mem_of_getElem? (i := 29) rfl))) (ty := (.array .int)) (by decide)
          have F295_departures : Fld Z h295 b295 "com/example/hourline/hourline/network/Timetable$Calls" "departures" "[I" .null := D295 (Or.inr (hw _ (List.mem_of_getElem? (i := 31) rfl))) (ty := (.array .int)) (by decide)
          have F295_kinds : Fld Z h295 b295 "com/example/hourline/hourline/network/Timetable$Calls" "kinds" "[B" .null := D295 (Or.inr (hw _ (List.mem_of_getElem? (i := 33) rfl))) (ty := (.array .byte)) (by decide)
          refine E.dup (q := 291) X295 hx (hb hby at_290) rfl ?_
          refine E.aload (q := 293) X295 hx (hb hby at_291) rfl rfl ?_
          refine E.aload (q := 295) X295 hx (hb hby at_293) rfl rfl ?_
          refine E.iload (q := 297) X295 hx (hb hby at_295) rfl ?_
          refine Ends.newA X295 hx hZ (hw _ (List.mem_of_getElem? (i := 8) rfl)) e295 (hb hby at_297) (N := 4) rfl (by decide) (by decide) (by decide) ?_
          intro T296 h296 b296 g296 X296 e296 E296 A296
          have ge_b296 : h0.size ≤ b296 := Nat.le_trans O295.le (Nat.le_of_eq g296.symm)
          have O296 := O295.ext E296
          have V296 : Ary Z h296 b296 .int [(.int (0 : Int32)), (.int (0 : Int32)), (.int (0 : Int32)), (.int (0 : Int32))] := A296
          refine E.iload (q := 301) X296 hx (hb hby at_299) rfl ?_
          refine Ends.newA X296 hx hZ (hw _ (List.mem_of_getElem? (i := 8) rfl)) e296 (hb hby at_301) (N := 4) rfl (by decide) (by decide) (by decide) ?_
          intro T297 h297 b297 g297 X297 e297 E297 A297
          have ge_b297 : h0.size ≤ b297 := Nat.le_trans O296.le (Nat.le_of_eq g297.symm)
          have O297 := O296.ext E297
          have V297 : Ary Z h297 b297 .int [(.int (0 : Int32)), (.int (0 : Int32)), (.int (0 : Int32)), (.int (0 : Int32))] := A297
          refine E.iload (q := 305) X297 hx (hb hby at_303) rfl ?_
          refine Ends.newA X297 hx hZ (hw _ (List.mem_of_getElem? (i := 12) rfl)) e297 (hb hby at_305) (N := 4) rfl (by decide) (by decide) (by decide) ?_
          intro T298 h298 b298 g298 X298 e298 E298 A298
          have ge_b298 : h0.size ≤ b298 := Nat.le_trans O297.le (Nat.le_of_eq g298.symm)
          have O298 := O297.ext E298
          have V298 : Ary Z h298 b298 .byte [(.int (0 : Int32)), (.int (0 : Int32)), (.int (0 : Int32)), (.int (0 : Int32))] := A298
          have f299 := A295.ext E296
          have f300 := f299.ext E297
          have f301 := f300.ext E298
          have f302 := F295_trips.ext E296
          have f303 := f302.ext E297
          have f304 := f303.ext E298
          have f305 := F295_positions.ext E296
          have f306 := f305.ext E297
          have f307 := f306.ext E298
          have f308 := F295_arrivals.ext E296
          have f309 := f308.ext E297
          have f310 := f309.ext E298
          have f311 := F295_departures.ext E296
          have f312 := f311.ext E297
          have f313 := f312.ext E298
          have f314 := F295_kinds.ext E296
          have f315 := f314.ext E297
          have f316 := f315.ext E298
          refine Ends.callI X298 hx hZ hown (hw _ (List.mem_of_getElem? (i := 13) rfl)) (hw _ (List.mem_of_getElem? (i := 14) rfl)) (hw _ (List.mem_of_getElem? (i := 11) rfl)) (hw _ (List.mem_of_getElem? (i := 15) rfl)) rfl (by decide) (argsL := [(.ref b277), (.ref b278), (.ref b296), (.ref b297), (.ref b298)]) (rest := [(.ref b295)]) e298 (rm2 l Z a0 hw b295 b277 b278 b296 b297 b298 h298 f301 f304 f307 f310 f313 f316) (W := 1) (by decide) (by decide) (by rw [hml]; rfl) (lenOf pd_2 rfl) (Nat.le_of_eq rfl) (hb hby at_307) (by decide) (by decide) rfl ?_
          rintro T317 v317 L317 X317 ⟨rfl, hO317, hFt317, hFp317⟩
          have e317 : T317.heap = T317.heap := rfl
          have O317 := O298.call hO317 (allS (Or.inr ge_b295) all0)
          show Ends p e below s _ _ _ T317 (mkF m 310 #[.val (.int vx), .val (.int vy), .val (.long vh), .second, .val (.int vs), .val (.int vt), .val (.int vp), .val (.int tB), .val (.int pB), .val (.int dp0), .val (.int dt1), .val (.int dp1), .val (.int dt2), .val (.int dp2), .val (.int dt3), .val (.int dp3), .val (.int tB), .val (.int p0), .val (.int t1), .val (.int p1), .val (.int t2), .val (.int p2), .val (.int t3), .val (.int p3), .val (.int (4 : Int32)), .val (.ref b277), .val (.ref b278), .unset, .unset, .unset, .unset, .unset, .unset, .unset, .unset] [(.ref b295)])
          refine E.astore (q := 312) (l' := #[.val (.int vx), .val (.int vy), .val (.long vh), .second, .val (.int vs), .val (.int vt), .val (.int vp), .val (.int tB), .val (.int pB), .val (.int dp0), .val (.int dt1), .val (.int dp1), .val (.int dt2), .val (.int dp2), .val (.int dt3), .val (.int dp3), .val (.int tB), .val (.int p0), .val (.int t1), .val (.int p1), .val (.int t2), .val (.int p2), .val (.int t3), .val (.int p3), .val (.int (4 : Int32)), .val (.ref b277), .val (.ref b278), .val (.ref b295), .unset, .unset, .unset, .unset, .unset, .unset, .unset]) X317 hx (hb hby at_310) rfl rfl ?_
          refine E.iload (q := 314) X317 hx (hb hby at_312) rfl ?_
          refine E.istore (q := 316) (l' := #[.val (.int vx), .val (.int vy), .val (.long vh), .second, .val (.int vs), .val (.int vt), .val (.int vp), .val (.int tB), .val (.int pB), .val (.int dp0), .val (.int dt1), .val (.int dp1), .val (.int dt2), .val (.int dp2), .val (.int dt3), .val (.int dp3), .val (.int tB), .val (.int p0), .val (.int t1), .val (.int p1), .val (.int t2), .val (.int p2), .val (.int t3), .val (.int p3), .val (.int (4 : Int32)), .val (.ref b277), .val (.ref b278), .val (.ref b295), .val (.int vt), .unset, .unset, .unset, .unset, .unset, .unset]) X317 hx (hb hby at_314) rfl ?_
          refine E.iload (q := 318) X317 hx (hb hby at_316) rfl ?_
          refine E.istore (q := 320) (l' := #[.val (.int vx), .val (.int vy), .val (.long vh), .second, .val (.int vs), .val (.int vt), .val (.int vp), .val (.int tB), .val (.int pB), .val (.int dp0), .val (.int dt1), .val (.int dp1), .val (.int dt2), .val (.int dp2), .val (.int dt3), .val (.int dp3), .val (.int tB), .val (.int p0), .val (.int t1), .val (.int p1), .val (.int t2), .val (.int p2), .val (.int t3), .val (.int p3), .val (.int (4 : Int32)), .val (.ref b277), .val (.ref b278), .val (.ref b295), .val (.int vt), .val (.int vp), .unset, .unset, .unset, .unset, .unset]) X317 hx (hb hby at_318) rfl ?_
          refine E.iload (q := 322) X317 hx (hb hby at_320) rfl ?_
          refine E.iconst (q := 323) (v := (3 : Int32)) X317 hx (hb hby at_322) rfl ?_
          refine E.iushr (q := 324) X317 hx (hb hby at_323) ?_
          refine E.iconst (q := 325) (v := (3 : Int32)) X317 hx (hb hby at_324) rfl ?_
          refine E.iand (q := 326) X317 hx (hb hby at_325) ?_
          refine E.istore (q := 328) (l' := #[.val (.int vx), .val (.int vy), .val (.long vh), .second, .val (.int vs), .val (.int vt), .val (.int vp), .val (.int tB), .val (.int pB), .val (.int dp0), .val (.int dt1), .val (.int dp1), .val (.int dt2), .val (.int dp2), .val (.int dt3), .val (.int dp3), .val (.int tB), .val (.int p0), .val (.int t1), .val (.int p1), .val (.int t2), .val (.int p2), .val (.int t3), .val (.int p3), .val (.int (4 : Int32)), .val (.ref b277), .val (.ref b278), .val (.ref b295), .val (.int vt), .val (.int vp), .val (.int (((vs.toUInt32 >>> ((3 : Int32) &&& 31).toUInt32).toInt32) &&& (3 : Int32))), .unset, .unset, .unset, .unset]) X317 hx (hb hby at_326) rfl ?_
          refine E.iload (q := 330) X317 hx (hb hby at_328) rfl ?_
          refine E.ifN (q := 333) X317 hx (hb hby at_330) (XT.i0_le_f (by decide)) ?_
          refine E.iload (q := 335) X317 hx (hb hby at_333) rfl ?_
          obtain ⟨lq318, cq318, sq318, Xp318, Op318, hcq318, hsq318⟩ : ∃ (lq : List Loc) (cq sq : Nat), Stand p l e room_1 s m #[(.int vx), (.int vy), (.long vh), (.int vs), (.int vt), (.int vp)] below meth c T317 lq cq sq ∧ Ok h0 T317.heap [] lq ∧ cq = 6 ∧ sq = 25 := ⟨_, _, _, X317, O317, rfl, rfl⟩
          subst hcq318 hsq318
          have JQ : ∀ (Tq : State) (tq pq : Int32) (s30 s31 s32 s33 s34 : Slot), Stand p l e room_1 s m #[(.int vx), (.int vy), (.long vh), (.int vs), (.int vt), (.int vp)] below meth c Tq lq318 6 25 → Tq.heap = T317.heap → (s31 = .unset ∨ ∃ w, s31 = .val w ∧ w.category = 1) → Ends p e below s (fun v h L => v = some (.int 1) ∧ Fr h0.size L) room_1.cells room_1.slots Tq (mkF m 438 #[.val (.int vx), .val (.int vy), .val (.long vh), .second, .val (.int vs), .val (.int vt), .val (.int vp), .val (.int tB), .val (.int pB), .val (.int dp0), .val (.int dt1), .val (.int dp1), .val (.int dt2), .val (.int dp2), .val (.int dt3), .val (.int dp3), .val (.int tB), .val (.int p0), .val (.int t1), .val (.int p1), .val (.int t2), .val (.int p2), .val (.int t3), .val (.int p3), .val (.int (4 : Int32)), .val (.ref b277), .val (.ref b278), .val (.ref b295), .val (.int tq), .val (.int pq), s30, s31, s32, s33, s34] []) := by
            intro Tq tq pq s30 s31 s32 s33 s34 Xq eq_ h31
            show Ends p e below s _ _ _ Tq (mkF m 438 #[.val (.int vx), .val (.int vy), .val (.long vh), .second, .val (.int vs), .val (.int vt), .val (.int vp), .val (.int tB), .val (.int pB), .val (.int dp0), .val (.int dt1), .val (.int dp1), .val (.int dt2), .val (.int dp2), .val (.int dt3), .val (.int dp3), .val (.int tB), .val (.int p0), .val (.int t1), .val (.int p1), .val (.int t2), .val (.int p2), .val (.int t3), .val (.int p3), .val (.int (4 : Int32)), .val (.ref b277), .val (.ref b278), .val (.ref b295), .val (.int tq), .val (.int pq), s30, s31, s32, s33, s34] [])
            refine E.iconst (q := 439) (v := (-1 : Int32)) Xq hx (hb hby at_438) rfl ?_
            refine E.istore (q := 441) (l' := #[.val (.int vx), .val (.int vy), .val (.long vh), .second, .val (.int vs), .val (.int vt), .val (.int vp), .val (.int tB), .val (.int pB), .val (.int dp0), .val (.int dt1), .val (.int dp1), .val (.int dt2), .val (.int dp2), .val (.int dt3), .val (.int dp3), .val (.int tB), .val (.int p0), .val (.int t1), .val (.int p1), .val (.int t2), .val (.int p2), .val (.int t3), .val (.int p3), .val (.int (4 : Int32)), .val (.ref b277), .val (.ref b278), .val (.ref b295), .val (.int tq), .val (.int pq), s30, .val (.int (-1 : Int32)), s32, s33, s34]) Xq hx (hb hby at_439) (XS.store1 rfl h31 rfl) ?_
            refine E.iload (q := 443) Xq hx (hb hby at_441) rfl ?_
            refine E.ifN (q := 446) Xq hx (hb hby at_443) (XT.i0_le_f (by decide)) ?_
            refine E.iload (q := 448) Xq hx (hb hby at_446) rfl ?_
            refine E.iload (q := 450) Xq hx (hb hby at_448) rfl ?_
            have JE0 : Ends p e below s (fun v h L => v = some (.int 1) ∧ Fr h0.size L) room_1.cells room_1.slots Tq (mkF m 463 #[.val (.int vx), .val (.int vy), .val (.long vh), .second, .val (.int vs), .val (.int vt), .val (.int vp), .val (.int tB), .val (.int pB), .val (.int dp0), .val (.int dt1), .val (.int dp1), .val (.int dt2), .val (.int dp2), .val (.int dt3), .val (.int dp3), .val (.int tB), .val (.int p0), .val (.int t1), .val (.int p1), .val (.int t2), .val (.int p2), .val (.int t3), .val (.int p3), .val (.int (4 : Int32)), .val (.ref b277), .val (.ref b278), .val (.ref b295), .val (.int tq), .val (.int pq), s30, .val (.int (if tq = tB ∧ pq = p0 then (0 : Int32) else (-1 : Int32))), s32, s33, s34] []) := by
              show Ends p e below s _ _ _ Tq (mkF m 463 #[.val (.int vx), .val (.int vy), .val (.long vh), .second, .val (.int vs), .val (.int vt), .val (.int vp), .val (.int tB), .val (.int pB), .val (.int dp0), .val (.int dt1), .val (.int dp1), .val (.int dt2), .val (.int dp2), .val (.int dt3), .val (.int dp3), .val (.int tB), .val (.int p0), .val (.int t1), .val (.int p1), .val (.int t2), .val (.int p2), .val (.int t3), .val (.int p3), .val (.int (4 : Int32)), .val (.ref b277), .val (.ref b278), .val (.ref b295), .val (.int tq), .val (.int pq), s30, .val (.int (if tq = tB ∧ pq = p0 then (0 : Int32) else (-1 : Int32))), s32, s33, s34] [])
              refine E.iload (q := 465) Xq hx (hb hby at_463) rfl ?_
              refine E.iconst (q := 466) (v := (1 : Int32)) Xq hx (hb hby at_465) rfl ?_
              refine E.icmpN (q := 469) Xq hx (hb hby at_466) (XT.ii_le_f (by decide)) ?_
              refine E.iload (q := 471) Xq hx (hb hby at_469) rfl ?_
              refine E.iload (q := 473) Xq hx (hb hby at_471) rfl ?_
              have JE1 : Ends p e below s (fun v h L => v = some (.int 1) ∧ Fr h0.size L) room_1.cells room_1.slots Tq (mkF m 486 #[.val (.int vx), .val (.int vy), .val (.long vh), .second, .val (.int vs), .val (.int vt), .val (.int vp), .val (.int tB), .val (.int pB), .val (.int dp0), .val (.int dt1), .val (.int dp1), .val (.int dt2), .val (.int dp2), .val (.int dt3), .val (.int dp3), .val (.int tB), .val (.int p0), .val (.int t1), .val (.int p1), .val (.int t2), .val (.int p2), .val (.int t3), .val (.int p3), .val (.int (4 : Int32)), .val (.ref b277), .val (.ref b278), .val (.ref b295), .val (.int tq), .val (.int pq), s30, .val (.int (if tq = t1 ∧ pq = p1 then (1 : Int32) else (if tq = tB ∧ pq = p0 then (0 : Int32) else (-1 : Int32)))), s32, s33, s34] []) := by
                show Ends p e below s _ _ _ Tq (mkF m 486 #[.val (.int vx), .val (.int vy), .val (.long vh), .second, .val (.int vs), .val (.int vt), .val (.int vp), .val (.int tB), .val (.int pB), .val (.int dp0), .val (.int dt1), .val (.int dp1), .val (.int dt2), .val (.int dp2), .val (.int dt3), .val (.int dp3), .val (.int tB), .val (.int p0), .val (.int t1), .val (.int p1), .val (.int t2), .val (.int p2), .val (.int t3), .val (.int p3), .val (.int (4 : Int32)), .val (.ref b277), .val (.ref b278), .val (.ref b295), .val (.int tq), .val (.int pq), s30, .val (.int (if tq = t1 ∧ pq = p1 then (1 : Int32) else (if tq = tB ∧ pq = p0 then (0 : Int32) else (-1 : Int32)))), s32, s33, s34] [])
                refine E.iload (q := 488) Xq hx (hb hby at_486) rfl ?_
                refine E.iconst (q := 489) (v := (2 : Int32)) Xq hx (hb hby at_488) rfl ?_
                refine E.icmpN (q := 492) Xq hx (hb hby at_489) (XT.ii_le_f (by decide)) ?_
                refine E.iload (q := 494) Xq hx (hb hby at_492) rfl ?_
                refine E.iload (q := 496) Xq hx (hb hby at_494) rfl ?_
                have JE2 : Ends p e below s (fun v h L => v = some (.int 1) ∧ Fr h0.size L) room_1.cells room_1.slots Tq (mkF m 509 #[.val (.int vx), .val (.int vy), .val (.long vh), .second, .val (.int vs), .val (.int vt), .val (.int vp), .val (.int tB), .val (.int pB), .val (.int dp0), .val (.int dt1), .val (.int dp1), .val (.int dt2), .val (.int dp2), .val (.int dt3), .val (.int dp3), .val (.int tB), .val (.int p0), .val (.int t1), .val (.int p1), .val (.int t2), .val (.int p2), .val (.int t3), .val (.int p3), .val (.int (4 : Int32)), .val (.ref b277), .val (.ref b278), .val (.ref b295), .val (.int tq), .val (.int pq), s30, .val (.int (if tq = t2 ∧ pq = p2 then (2 : Int32) else (if tq = t1 ∧ pq = p1 then (1 : Int32) else (if tq = tB ∧ pq = p0 then (0 : Int32) else (-1 : Int32))))), s32, s33, s34] []) := by
                  show Ends p e below s _ _ _ Tq (mkF m 509 #[.val (.int vx), .val (.int vy), .val (.long vh), .second, .val (.int vs), .val (.int vt), .val (.int vp), .val (.int tB), .val (.int pB), .val (.int dp0), .val (.int dt1), .val (.int dp1), .val (.int dt2), .val (.int dp2), .val (.int dt3), .val (.int dp3), .val (.int tB), .val (.int p0), .val (.int t1), .val (.int p1), .val (.int t2), .val (.int p2), .val (.int t3), .val (.int p3), .val (.int (4 : Int32)), .val (.ref b277), .val (.ref b278), .val (.ref b295), .val (.int tq), .val (.int pq), s30, .val (.int (if tq = t2 ∧ pq = p2 then (2 : Int32) else (if tq = t1 ∧ pq = p1 then (1 : Int32) else (if tq = tB ∧ pq = p0 then (0 : Int32) else (-1 : Int32))))), s32, s33, s34] [])
                  refine E.iload (q := 511) Xq hx (hb hby at_509) rfl ?_
                  refine E.iconst (q := 512) (v := (3 : Int32)) Xq hx (hb hby at_511) rfl ?_
                  refine E.icmpN (q := 515) Xq hx (hb hby at_512) (XT.ii_le_f (by decide)) ?_
                  refine E.iload (q := 517) Xq hx (hb hby at_515) rfl ?_
                  refine E.iload (q := 519) Xq hx (hb hby at_517) rfl ?_
                  have JE3 : Ends p e below s (fun v h L => v = some (.int 1) ∧ Fr h0.size L) room_1.cells room_1.slots Tq (mkF m 532 #[.val (.int vx), .val (.int vy), .val (.long vh), .second, .val (.int vs), .val (.int vt), .val (.int vp), .val (.int tB), .val (.int pB), .val (.int dp0), .val (.int dt1), .val (.int dp1), .val (.int dt2), .val (.int dp2), .val (.int dt3), .val (.int dp3), .val (.int tB), .val (.int p0), .val (.int t1), .val (.int p1), .val (.int t2), .val (.int p2), .val (.int t3), .val (.int p3), .val (.int (4 : Int32)), .val (.ref b277), .val (.ref b278), .val (.ref b295), .val (.int tq), .val (.int pq), s30, .val (.int (if tq = t3 ∧ pq = p3 then (3 : Int32) else (if tq = t2 ∧ pq = p2 then (2 : Int32) else (if tq = t1 ∧ pq = p1 then (1 : Int32) else (if tq = tB ∧ pq = p0 then (0 : Int32) else (-1 : Int32)))))), s32, s33, s34] []) := by
                    show Ends p e below s _ _ _ Tq (mkF m 532 #[.val (.int vx), .val (.int vy), .val (.long vh), .second, .val (.int vs), .val (.int vt), .val (.int vp), .val (.int tB), .val (.int pB), .val (.int dp0), .val (.int dt1), .val (.int dp1), .val (.int dt2), .val (.int dp2), .val (.int dt3), .val (.int dp3), .val (.int tB), .val (.int p0), .val (.int t1), .val (.int p1), .val (.int t2), .val (.int p2), .val (.int t3), .val (.int p3), .val (.int (4 : Int32)), .val (.ref b277), .val (.ref b278), .val (.ref b295), .val (.int tq), .val (.int pq), s30, .val (.int (if tq = t3 ∧ pq = p3 then (3 : Int32) else (if tq = t2 ∧ pq = p2 then (2 : Int32) else (if tq = t1 ∧ pq = p1 then (1 : Int32) else (if tq = tB ∧ pq = p0 then (0 : Int32) else (-1 : Int32)))))), s32, s33, s34] [])
                    refine E.aload (q := 534) Xq hx (hb hby at_532) rfl rfl ?_
                    refine E.iload (q := 536) Xq hx (hb hby at_534) rfl ?_
                    refine E.iload (q := 538) Xq hx (hb hby at_536) rfl ?_
                    have f321 := V292.other W294 (Nat.ne_of_lt (Nat.lt_of_lt_of_eq V277.lt g278.symm))
                    have f322 := f321.ext E295
                    have f323 := f322.ext E296
                    have f324 := f323.ext E297
                    have f325 := f324.ext E298
                    have f326 := f325.keep hO317.1 (ninS (Nat.ne_of_lt (Nat.lt_of_lt_of_eq f321.lt g295.symm)) nin0)
                    have f327 := V294.ext E295
                    have f328 := f327.ext E296
                    have f329 := f328.ext E297
                    have f330 := f329.ext E298
                    have f331 := f330.keep hO317.1 (ninS (Nat.ne_of_lt (Nat.lt_of_lt_of_eq V294.lt g295.symm)) nin0)
                    have f332 := f301.keep hO317.1
                    refine Ends.callV Xq hx hZ hown (hw _ (List.mem_of_getElem? (i := 34) rfl)) (hw _ (List.mem_of_getElem? (i := 35) rfl)) (hw _ (List.mem_of_getElem? (i := 37) rfl)) (hw _ (List.mem_of_getElem? (i := 36) rfl)) (hw _ (List.mem_of_getElem? (i := 11) rfl)) (hw _ (List.mem_of_getElem? (i := 38) rfl)) (by decide) (argsL := [(.int tq), (.int pq)]) (rest := []) eq_ f332 (rmF4 l Z a0 hw b295 tq pq b277 b278 tB p0 t1 p1 t2 p2 t3 p3 T317.heap hFt317 hFp317 f326 f331 S0 S1 S2) (W := 0) (by decide) (by decide) (by rw [hml]; rfl) (lenOf pd_1 rfl) (Nat.le_of_eq rfl) (hb hby at_538) (by decide) (by decide) rfl ?_
                    rintro T333 v333 L333 X333 ⟨rfl, e333, rfl⟩
                    rw [List.append_nil] at X333
                    show Ends p e below s _ _ _ T333 (mkF m 541 #[.val (.int vx), .val (.int vy), .val (.long vh), .second, .val (.int vs), .val (.int vt), .val (.int vp), .val (.int tB), .val (.int pB), .val (.int dp0), .val (.int dt1), .val (.int dp1), .val (.int dt2), .val (.int dp2), .val (.int dt3), .val (.int dp3), .val (.int tB), .val (.int p0), .val (.int t1), .val (.int p1), .val (.int t2), .val (.int p2), .val (.int t3), .val (.int p3), .val (.int (4 : Int32)), .val (.ref b277), .val (.ref b278), .val (.ref b295), .val (.int tq), .val (.int pq), s30, .val (.int (if tq = t3 ∧ pq = p3 then (3 : Int32) else (if tq = t2 ∧ pq = p2 then (2 : Int32) else (if tq = t1 ∧ pq = p1 then (1 : Int32) else (if tq = tB ∧ pq = p0 then (0 : Int32) else (-1 : Int32)))))), s32, s33, s34] [(.int (if tq = t3 ∧ pq = p3 then (3 : Int32) else (if tq = t2 ∧ pq = p2 then (2 : Int32) else (if tq = t1 ∧ pq = p1 then (1 : Int32) else (if tq = tB ∧ pq = p0 then (0 : Int32) else (-1 : Int32))))))])
                    refine E.iload (q := 543) X333 hx (hb hby at_541) rfl ?_
                    refine E.icmpN (q := 546) X333 hx (hb hby at_543) (XT.ii_ne_f rfl) ?_
                    refine E.iconst (q := 547) (v := (1 : Int32)) X333 hx (hb hby at_546) rfl ?_
                    refine E.goto (q := 551) X333 hx (hb hby at_547) ?_
                    exact Ends.retS X333 hx hlk hret (by simp) rfl (hb hby at_551) (by decide) (by decide) ⟨rfl, Op318.fr⟩
                  by_cases ha3 : tq = t3
                  · refine E.icmpN (q := 522) Xq hx (hb hby at_519) (XT.ii_ne_f ha3) ?_
                    refine E.iload (q := 524) Xq hx (hb hby at_522) rfl ?_
                    refine E.iload (q := 526) Xq hx (hb hby at_524) rfl ?_
                    by_cases hbb3 : pq = p3
                    · refine E.icmpN (q := 529) Xq hx (hb hby at_526) (XT.ii_ne_f hbb3) ?_
                      refine E.iconst (q := 530) (v := (3 : Int32)) Xq hx (hb hby at_529) rfl ?_
                      refine E.istore (q := 532) (l' := #[.val (.int vx), .val (.int vy), .val (.long vh), .second, .val (.int vs), .val (.int vt), .val (.int vp), .val (.int tB), .val (.int pB), .val (.int dp0), .val (.int dt1), .val (.int dp1), .val (.int dt2), .val (.int dp2), .val (.int dt3), .val (.int dp3), .val (.int tB), .val (.int p0), .val (.int t1), .val (.int p1), .val (.int t2), .val (.int p2), .val (.int t3), .val (.int p3), .val (.int (4 : Int32)), .val (.ref b277), .val (.ref b278), .val (.ref b295), .val (.int tq), .val (.int pq), s30, .val (.int (3 : Int32)), s32, s33, s34]) Xq hx (hb hby at_530) rfl ?_
                      rw [show (if tq = t3 ∧ pq = p3 then (3 : Int32) else (if tq = t2 ∧ pq = p2 then (2 : Int32) else (if tq = t1 ∧ pq = p1 then (1 : Int32) else (if tq = tB ∧ pq = p0 then (0 : Int32) else (-1 : Int32))))) = (3 : Int32) from if_pos ⟨ha3, hbb3⟩] at JE3
                      exact JE3
                    · refine E.icmpY (q := 532) Xq hx (hb hby at_526) (XT.ii_ne_t hbb3) ?_
                      rw [show (if tq = t3 ∧ pq = p3 then (3 : Int32) else (if tq = t2 ∧ pq = p2 then (2 : Int32) else (if tq = t1 ∧ pq = p1 then (1 : Int32) else (if tq = tB ∧ pq = p0 then (0 : Int32) else (-1 : Int32))))) = (if tq = t2 ∧ pq = p2 then (2 : Int32) else (if tq = t1 ∧ pq = p1 then (1 : Int32) else (if tq = tB ∧ pq = p0 then (0 : Int32) else (-1 : Int32)))) from if_neg (fun q => hbb3 q.2)] at JE3
                      exact JE3
                  · refine E.icmpY (q := 532) Xq hx (hb hby at_519) (XT.ii_ne_t ha3) ?_
                    rw [show (if tq = t3 ∧ pq = p3 then (3 : Int32) else (if tq = t2 ∧ pq = p2 then (2 : Int32) else (if tq = t1 ∧ pq = p1 then (1 : Int32) else (if tq = tB ∧ pq = p0 then (0 : Int32) else (-1 : Int32))))) = (if tq = t2 ∧ pq = p2 then (2 : Int32) else (if tq = t1 ∧ pq = p1 then (1 : Int32) else (if tq = tB ∧ pq = p0 then (0 : Int32) else (-1 : Int32)))) from if_neg (fun q => ha3 q.1)] at JE3
                    exact JE3
                by_cases ha2 : tq = t2
                · refine E.icmpN (q := 499) Xq hx (hb hby at_496) (XT.ii_ne_f ha2) ?_
                  refine E.iload (q := 501) Xq hx (hb hby at_499) rfl ?_
                  refine E.iload (q := 503) Xq hx (hb hby at_501) rfl ?_
                  by_cases hbb2 : pq = p2
                  · refine E.icmpN (q := 506) Xq hx (hb hby at_503) (XT.ii_ne_f hbb2) ?_
                    refine E.iconst (q := 507) (v := (2 : Int32)) Xq hx (hb hby at_506) rfl ?_
                    refine E.istore (q := 509) (l' := #[.val (.int vx), .val (.int vy), .val (.long vh), .second, .val (.int vs), .val (.int vt), .val (.int vp), .val (.int tB), .val (.int pB), .val (.int dp0), .val (.int dt1), .val (.int dp1), .val (.int dt2), .val (.int dp2), .val (.int dt3), .val (.int dp3), .val (.int tB), .val (.int p0), .val (.int t1), .val (.int p1), .val (.int t2), .val (.int p2), .val (.int t3), .val (.int p3), .val (.int (4 : Int32)), .val (.ref b277), .val (.ref b278), .val (.ref b295), .val (.int tq), .val (.int pq), s30, .val (.int (2 : Int32)), s32, s33, s34]) Xq hx (hb hby at_507) rfl ?_
                    rw [show (if tq = t2 ∧ pq = p2 then (2 : Int32) else (if tq = t1 ∧ pq = p1 then (1 : Int32) else (if tq = tB ∧ pq = p0 then (0 : Int32) else (-1 : Int32)))) = (2 : Int32) from if_pos ⟨ha2, hbb2⟩] at JE2
                    exact JE2
                  · refine E.icmpY (q := 509) Xq hx (hb hby at_503) (XT.ii_ne_t hbb2) ?_
                    rw [show (if tq = t2 ∧ pq = p2 then (2 : Int32) else (if tq = t1 ∧ pq = p1 then (1 : Int32) else (if tq = tB ∧ pq = p0 then (0 : Int32) else (-1 : Int32)))) = (if tq = t1 ∧ pq = p1 then (1 : Int32) else (if tq = tB ∧ pq = p0 then (0 : Int32) else (-1 : Int32))) from if_neg (fun q => hbb2 q.2)] at JE2
                    exact JE2
                · refine E.icmpY (q := 509) Xq hx (hb hby at_496) (XT.ii_ne_t ha2) ?_
                  rw [show (if tq = t2 ∧ pq = p2 then (2 : Int32) else (if tq = t1 ∧ pq = p1 then (1 : Int32) else (if tq = tB ∧ pq = p0 then (0 : Int32) else (-1 : Int32)))) = (if tq = t1 ∧ pq = p1 then (1 : Int32) else (if tq = tB ∧ pq = p0 then (0 : Int32) else (-1 : Int32))) from if_neg (fun q => ha2 q.1)] at JE2
                  exact JE2
              by_cases ha1 : tq = t1
              · refine E.icmpN (q := 476) Xq hx (hb hby at_473) (XT.ii_ne_f ha1) ?_
                refine E.iload (q := 478) Xq hx (hb hby at_476) rfl ?_
                refine E.iload (q := 480) Xq hx (hb hby at_478) rfl ?_
                by_cases hbb1 : pq = p1
                · refine E.icmpN (q := 483) Xq hx (hb hby at_480) (XT.ii_ne_f hbb1) ?_
                  refine E.iconst (q := 484) (v := (1 : Int32)) Xq hx (hb hby at_483) rfl ?_
                  refine E.istore (q := 486) (l' := #[.val (.int vx), .val (.int vy), .val (.long vh), .second, .val (.int vs), .val (.int vt), .val (.int vp), .val (.int tB), .val (.int pB), .val (.int dp0), .val (.int dt1), .val (.int dp1), .val (.int dt2), .val (.int dp2), .val (.int dt3), .val (.int dp3), .val (.int tB), .val (.int p0), .val (.int t1), .val (.int p1), .val (.int t2), .val (.int p2), .val (.int t3), .val (.int p3), .val (.int (4 : Int32)), .val (.ref b277), .val (.ref b278), .val (.ref b295), .val (.int tq), .val (.int pq), s30, .val (.int (1 : Int32)), s32, s33, s34]) Xq hx (hb hby at_484) rfl ?_
                  rw [show (if tq = t1 ∧ pq = p1 then (1 : Int32) else (if tq = tB ∧ pq = p0 then (0 : Int32) else (-1 : Int32))) = (1 : Int32) from if_pos ⟨ha1, hbb1⟩] at JE1
                  exact JE1
                · refine E.icmpY (q := 486) Xq hx (hb hby at_480) (XT.ii_ne_t hbb1) ?_
                  rw [show (if tq = t1 ∧ pq = p1 then (1 : Int32) else (if tq = tB ∧ pq = p0 then (0 : Int32) else (-1 : Int32))) = (if tq = tB ∧ pq = p0 then (0 : Int32) else (-1 : Int32)) from if_neg (fun q => hbb1 q.2)] at JE1
                  exact JE1
              · refine E.icmpY (q := 486) Xq hx (hb hby at_473) (XT.ii_ne_t ha1) ?_
                rw [show (if tq = t1 ∧ pq = p1 then (1 : Int32) else (if tq = tB ∧ pq = p0 then (0 : Int32) else (-1 : Int32))) = (if tq = tB ∧ pq = p0 then (0 : Int32) else (-1 : Int32)) from if_neg (fun q => ha1 q.1)] at JE1
                exact JE1
            by_cases ha0 : tq = tB
            · refine E.icmpN (q := 453) Xq hx (hb hby at_450) (XT.ii_ne_f ha0) ?_
              refine E.iload (q := 455) Xq hx (hb hby at_453) rfl ?_
              refine E.iload (q := 457) Xq hx (hb hby at_455) rfl ?_
              by_cases hbb0 : pq = p0
              · refine E.icmpN (q := 460) Xq hx (hb hby at_457) (XT.ii_ne_f hbb0) ?_
                refine E.iconst (q := 461) (v := (0 : Int32)) Xq hx (hb hby at_460) rfl ?_
                refine E.istore (q := 463) (l' := #[.val (.int vx), .val (.int vy), .val (.long vh), .second, .val (.int vs), .val (.int vt), .val (.int vp), .val (.int tB), .val (.int pB), .val (.int dp0), .val (.int dt1), .val (.int dp1), .val (.int dt2), .val (.int dp2), .val (.int dt3), .val (.int dp3), .val (.int tB), .val (.int p0), .val (.int t1), .val (.int p1), .val (.int t2), .val (.int p2), .val (.int t3), .val (.int p3), .val (.int (4 : Int32)), .val (.ref b277), .val (.ref b278), .val (.ref b295), .val (.int tq), .val (.int pq), s30, .val (.int (0 : Int32)), s32, s33, s34]) Xq hx (hb hby at_461) rfl ?_
                rw [show (if tq = tB ∧ pq = p0 then (0 : Int32) else (-1 : Int32)) = (0 : Int32) from if_pos ⟨ha0, hbb0⟩] at JE0
                exact JE0
              · refine E.icmpY (q := 463) Xq hx (hb hby at_457) (XT.ii_ne_t hbb0) ?_
                rw [show (if tq = tB ∧ pq = p0 then (0 : Int32) else (-1 : Int32)) = (-1 : Int32) from if_neg (fun q => hbb0 q.2)] at JE0
                exact JE0
            · refine E.icmpY (q := 463) Xq hx (hb hby at_450) (XT.ii_ne_t ha0) ?_
              rw [show (if tq = tB ∧ pq = p0 then (0 : Int32) else (-1 : Int32)) = (-1 : Int32) from if_neg (fun q => ha0 q.1)] at JE0
              exact JE0
          by_cases hm335 : (((vs.toUInt32 >>> ((3 : Int32) &&& 31).toUInt32).toInt32) &&& (3 : Int32)) = (0 : Int32)
          · refine E.ifY (q := 438) Xp318 hx (hb hby at_335) (XT.i0_eq_t hm335) ?_
            exact JQ _ _ _ _ _ _ _ _ Xp318 e317 (Or.inl rfl)
          · refine E.ifN (q := 338) Xp318 hx (hb hby at_335) (XT.i0_eq_f hm335) ?_
            refine E.iload (q := 340) Xp318 hx (hb hby at_338) rfl ?_
            refine E.iconst (q := 341) (v := (5 : Int32)) Xp318 hx (hb hby at_340) rfl ?_
            refine E.iushr (q := 342) Xp318 hx (hb hby at_341) ?_
            refine E.iconst (q := 343) (v := (3 : Int32)) Xp318 hx (hb hby at_342) rfl ?_
            refine E.iand (q := 344) Xp318 hx (hb hby at_343) ?_
            refine E.iload (q := 346) Xp318 hx (hb hby at_344) rfl ?_
            refine E.irem (q := 347) Xp318 hx (hb hby at_346) (by decide) ?_
            refine E.istore (q := 349) (l' := #[.val (.int vx), .val (.int vy), .val (.long vh), .second, .val (.int vs), .val (.int vt), .val (.int vp), .val (.int tB), .val (.int pB), .val (.int dp0), .val (.int dt1), .val (.int dp1), .val (.int dt2), .val (.int dp2), .val (.int dt3), .val (.int dp3), .val (.int tB), .val (.int p0), .val (.int t1), .val (.int p1), .val (.int t2), .val (.int p2), .val (.int t3), .val (.int p3), .val (.int (4 : Int32)), .val (.ref b277), .val (.ref b278), .val (.ref b295), .val (.int vt), .val (.int vp), .val (.int (((vs.toUInt32 >>> ((3 : Int32) &&& 31).toUInt32).toInt32) &&& (3 : Int32))), .val (.int ((((vs.toUInt32 >>> ((5 : Int32) &&& 31).toUInt32).toInt32) &&& (3 : Int32)) % (4 : Int32))), .unset, .unset, .unset]) Xp318 hx (hb hby at_347) rfl ?_
            refine E.iload (q := 351) Xp318 hx (hb hby at_349) rfl ?_
            refine E.iload (q := 353) Xp318 hx (hb hby at_351) rfl ?_
            refine E.iload (q := 355) Xp318 hx (hb hby at_353) rfl ?_
            refine E.iload (q := 357) Xp318 hx (hb hby at_355) rfl ?_
            refine E.iload (q := 359) Xp318 hx (hb hby at_357) rfl ?_
            refine Ends.callS Xp318 hx hZ hown (hw _ (List.mem_of_getElem? (i := 39) rfl)) (hw _ (List.mem_of_getElem? (i := 40) rfl)) (hw _ (List.mem_of_getElem? (i := 41) rfl)) (hw _ (List.mem_of_getElem? (i := 42) rfl)) (by decide) (argsL := [(.int ((((vs.toUInt32 >>> ((5 : Int32) &&& 31).toUInt32).toInt32) &&& (3 : Int32)) % (4 : Int32))), (.int tB), (.int t1), (.int t2), (.int t3)]) (rest := []) e317 (rm6 l Z a0 hw ((((vs.toUInt32 >>> ((5 : Int32) &&& 31).toUInt32).toInt32) &&& (3 : Int32)) % (4 : Int32)) tB t1 t2 t3 T317.heap) (W := 0) (by decide) (by decide) (by rw [hml]; rfl) (lenOf pd_3 rfl) (Nat.le_of_eq rfl) (hb hby at_359) (by decide) (by decide) rfl ?_
            rintro T319 v319 L319 X319 ⟨z319, rfl, e319, rfl⟩
            rw [List.append_nil] at X319
            show Ends p e below s _ _ _ T319 (mkF m 362 #[.val (.int vx), .val (.int vy), .val (.long vh), .second, .val (.int vs), .val (.int vt), .val (.int vp), .val (.int tB), .val (.int pB), .val (.int dp0), .val (.int dt1), .val (.int dp1), .val (.int dt2), .val (.int dp2), .val (.int dt3), .val (.int dp3), .val (.int tB), .val (.int p0), .val (.int t1), .val (.int p1), .val (.int t2), .val (.int p2), .val (.int t3), .val (.int p3), .val (.int (4 : Int32)), .val (.ref b277), .val (.ref b278), .val (.ref b295), .val (.int vt), .val (.int vp), .val (.int (((vs.toUInt32 >>> ((3 : Int32) &&& 31).toUInt32).toInt32) &&& (3 : Int32))), .val (.int ((((vs.toUInt32 >>> ((5 : Int32) &&& 31).toUInt32).toInt32) &&& (3 : Int32)) % (4 : Int32))), .unset, .unset, .unset] [(.int z319)])
            refine E.istore (q := 364) (l' := #[.val (.int vx), .val (.int vy), .val (.long vh), .second, .val (.int vs), .val (.int vt), .val (.int vp), .val (.int tB), .val (.int pB), .val (.int dp0), .val (.int dt1), .val (.int dp1), .val (.int dt2), .val (.int dp2), .val (.int dt3), .val (.int dp3), .val (.int tB), .val (.int p0), .val (.int t1), .val (.int p1), .val (.int t2), .val (.int p2), .val (.int t3), .val (.int p3), .val (.int (4 : Int32)), .val (.ref b277), .val (.ref b278), .val (.ref b295), .val (.int vt), .val (.int vp), .val (.int (((vs.toUInt32 >>> ((3 : Int32) &&& 31).toUInt32).toInt32) &&& (3 : Int32))), .val (.int ((((vs.toUInt32 >>> ((5 : Int32) &&& 31).toUInt32).toInt32) &&& (3 : Int32)) % (4 : Int32))), .val (.int z319), .unset, .unset]) X319 hx (hb hby at_362) rfl ?_
            refine E.iload (q := 366) X319 hx (hb hby at_364) rfl ?_
            refine E.iload (q := 368) X319 hx (hb hby at_366) rfl ?_
            refine E.iload (q := 370) X319 hx (hb hby at_368) rfl ?_
            refine E.iload (q := 372) X319 hx (hb hby at_370) rfl ?_
            refine E.iload (q := 374) X319 hx (hb hby at_372) rfl ?_
            refine Ends.callS X319 hx hZ hown (hw _ (List.mem_of_getElem? (i := 39) rfl)) (hw _ (List.mem_of_getElem? (i := 40) rfl)) (hw _ (List.mem_of_getElem? (i := 41) rfl)) (hw _ (List.mem_of_getElem? (i := 42) rfl)) (by decide) (argsL := [(.int ((((vs.toUInt32 >>> ((5 : Int32) &&& 31).toUInt32).toInt32) &&& (3 : Int32)) % (4 : Int32))), (.int p0), (.int p1), (.int p2), (.int p3)]) (rest := []) e319 (rm6 l Z a0 hw ((((vs.toUInt32 >>> ((5 : Int32) &&& 31).toUInt32).toInt32) &&& (3 : Int32)) % (4 : Int32)) p0 p1 p2 p3 T317.heap) (W := 0) (by decide) (by decide) (by rw [hml]; rfl) (lenOf pd_3 rfl) (Nat.le_of_eq rfl) (hb hby at_374) (by decide) (by decide) rfl ?_
            rintro T320 v320 L320 X320 ⟨z320, rfl, e320, rfl⟩
            rw [List.append_nil] at X320
            show Ends p e below s _ _ _ T320 (mkF m 377 #[.val (.int vx), .val (.int vy), .val (.long vh), .second, .val (.int vs), .val (.int vt), .val (.int vp), .val (.int tB), .val (.int pB), .val (.int dp0), .val (.int dt1), .val (.int dp1), .val (.int dt2), .val (.int dp2), .val (.int dt3), .val (.int dp3), .val (.int tB), .val (.int p0), .val (.int t1), .val (.int p1), .val (.int t2), .val (.int p2), .val (.int t3), .val (.int p3), .val (.int (4 : Int32)), .val (.ref b277), .val (.ref b278), .val (.ref b295), .val (.int vt), .val (.int vp), .val (.int (((vs.toUInt32 >>> ((3 : Int32) &&& 31).toUInt32).toInt32) &&& (3 : Int32))), .val (.int ((((vs.toUInt32 >>> ((5 : Int32) &&& 31).toUInt32).toInt32) &&& (3 : Int32)) % (4 : Int32))), .val (.int z319), .unset, .unset] [(.int z320)])
            refine E.istore (q := 379) (l' := #[.val (.int vx), .val (.int vy), .val (.long vh), .second, .val (.int vs), .val (.int vt), .val (.int vp), .val (.int tB), .val (.int pB), .val (.int dp0), .val (.int dt1), .val (.int dp1), .val (.int dt2), .val (.int dp2), .val (.int dt3), .val (.int dp3), .val (.int tB), .val (.int p0), .val (.int t1), .val (.int p1), .val (.int t2), .val (.int p2), .val (.int t3), .val (.int p3), .val (.int (4 : Int32)), .val (.ref b277), .val (.ref b278), .val (.ref b295), .val (.int vt), .val (.int vp), .val (.int (((vs.toUInt32 >>> ((3 : Int32) &&& 31).toUInt32).toInt32) &&& (3 : Int32))), .val (.int ((((vs.toUInt32 >>> ((5 : Int32) &&& 31).toUInt32).toInt32) &&& (3 : Int32)) % (4 : Int32))), .val (.int z319), .val (.int z320), .unset]) X320 hx (hb hby at_377) rfl ?_
            refine E.iload (q := 381) X320 hx (hb hby at_379) rfl ?_
            refine E.ldc (q := 383) X320 hx hZ hown (hw _ (List.mem_of_getElem? (i := 0) rfl)) (hb hby at_381) ?_
            refine E.iand (q := 384) X320 hx (hb hby at_383) ?_
            refine E.iconst (q := 385) (v := (3 : Int32)) X320 hx (hb hby at_384) rfl ?_
            refine E.irem (q := 386) X320 hx (hb hby at_385) (by decide) ?_
            refine E.iconst (q := 387) (v := (1 : Int32)) X320 hx (hb hby at_386) rfl ?_
            refine E.isub (q := 388) X320 hx (hb hby at_387) ?_
            refine E.istore (q := 390) (l' := #[.val (.int vx), .val (.int vy), .val (.long vh), .second, .val (.int vs), .val (.int vt), .val (.int vp), .val (.int tB), .val (.int pB), .val (.int dp0), .val (.int dt1), .val (.int dp1), .val (.int dt2), .val (.int dp2), .val (.int dt3), .val (.int dp3), .val (.int tB), .val (.int p0), .val (.int t1), .val (.int p1), .val (.int t2), .val (.int p2), .val (.int t3), .val (.int p3), .val (.int (4 : Int32)), .val (.ref b277), .val (.ref b278), .val (.ref b295), .val (.int vt), .val (.int vp), .val (.int (((vs.toUInt32 >>> ((3 : Int32) &&& 31).toUInt32).toInt32) &&& (3 : Int32))), .val (.int ((((vs.toUInt32 >>> ((5 : Int32) &&& 31).toUInt32).toInt32) &&& (3 : Int32)) % (4 : Int32))), .val (.int z319), .val (.int z320), .val (.int (((vp &&& (2147483647 : Int32)) % (3 : Int32)) - (1 : Int32)))]) X320 hx (hb hby at_388) rfl ?_
            refine E.iload (q := 392) X320 hx (hb hby at_390) rfl ?_
            refine E.iconst (q := 393) (v := (1 : Int32)) X320 hx (hb hby at_392) rfl ?_
            by_cases hm393 : (((vs.toUInt32 >>> ((3 : Int32) &&& 31).toUInt32).toInt32) &&& (3 : Int32)) = (1 : Int32)
            · refine E.icmpN (q := 396) X320 hx (hb hby at_393) (XT.ii_ne_f hm393) ?_
              refine E.iload (q := 398) X320 hx (hb hby at_396) rfl ?_
              refine E.istore (q := 400) (l' := #[.val (.int vx), .val (.int vy), .val (.long vh), .second, .val (.int vs), .val (.int vt), .val (.int vp), .val (.int tB), .val (.int pB), .val (.int dp0), .val (.int dt1), .val (.int dp1), .val (.int dt2), .val (.int dp2), .val (.int dt3), .val (.int dp3), .val (.int tB), .val (.int p0), .val (.int t1), .val (.int p1), .val (.int t2), .val (.int p2), .val (.int t3), .val (.int p3), .val (.int (4 : Int32)), .val (.ref b277), .val (.ref b278), .val (.ref b295), .val (.int z319), .val (.int vp), .val (.int (((vs.toUInt32 >>> ((3 : Int32) &&& 31).toUInt32).toInt32) &&& (3 : Int32))), .val (.int ((((vs.toUInt32 >>> ((5 : Int32) &&& 31).toUInt32).toInt32) &&& (3 : Int32)) % (4 : Int32))), .val (.int z319), .val (.int z320), .val (.int (((vp &&& (2147483647 : Int32)) % (3 : Int32)) - (1 : Int32)))]) X320 hx (hb hby at_398) rfl ?_
              refine E.iload (q := 402) X320 hx (hb hby at_400) rfl ?_
              refine E.istore (q := 404) (l' := #[.val (.int vx), .val (.int vy), .val (.long vh), .second, .val (.int vs), .val (.int vt), .val (.int vp), .val (.int tB), .val (.int pB), .val (.int dp0), .val (.int dt1), .val (.int dp1), .val (.int dt2), .val (.int dp2), .val (.int dt3), .val (.int dp3), .val (.int tB), .val (.int p0), .val (.int t1), .val (.int p1), .val (.int t2), .val (.int p2), .val (.int t3), .val (.int p3), .val (.int (4 : Int32)), .val (.ref b277), .val (.ref b278), .val (.ref b295), .val (.int z319), .val (.int z320), .val (.int (((vs.toUInt32 >>> ((3 : Int32) &&& 31).toUInt32).toInt32) &&& (3 : Int32))), .val (.int ((((vs.toUInt32 >>> ((5 : Int32) &&& 31).toUInt32).toInt32) &&& (3 : Int32)) % (4 : Int32))), .val (.int z319), .val (.int z320), .val (.int (((vp &&& (2147483647 : Int32)) % (3 : Int32)) - (1 : Int32)))]) X320 hx (hb hby at_402) rfl ?_
              refine E.goto (q := 438) X320 hx (hb hby at_404) ?_
              exact JQ _ _ _ _ _ _ _ _ X320 e320 (Or.inr ⟨_, rfl, rfl⟩)
            · refine E.icmpY (q := 407) X320 hx (hb hby at_393) (XT.ii_ne_t hm393) ?_
              refine E.iload (q := 409) X320 hx (hb hby at_407) rfl ?_
              refine E.iconst (q := 410) (v := (2 : Int32)) X320 hx (hb hby at_409) rfl ?_
              by_cases hm410 : (((vs.toUInt32 >>> ((3 : Int32) &&& 31).toUInt32).toInt32) &&& (3 : Int32)) = (2 : Int32)
              · refine E.icmpN (q := 413) X320 hx (hb hby at_410) (XT.ii_ne_f hm410) ?_
                refine E.iload (q := 415) X320 hx (hb hby at_413) rfl ?_
                refine E.istore (q := 417) (l' := #[.val (.int vx), .val (.int vy), .val (.long vh), .second, .val (.int vs), .val (.int vt), .val (.int vp), .val (.int tB), .val (.int pB), .val (.int dp0), .val (.int dt1), .val (.int dp1), .val (.int dt2), .val (.int dp2), .val (.int dt3), .val (.int dp3), .val (.int tB), .val (.int p0), .val (.int t1), .val (.int p1), .val (.int t2), .val (.int p2), .val (.int t3), .val (.int p3), .val (.int (4 : Int32)), .val (.ref b277), .val (.ref b278), .val (.ref b295), .val (.int z319), .val (.int vp), .val (.int (((vs.toUInt32 >>> ((3 : Int32) &&& 31).toUInt32).toInt32) &&& (3 : Int32))), .val (.int ((((vs.toUInt32 >>> ((5 : Int32) &&& 31).toUInt32).toInt32) &&& (3 : Int32)) % (4 : Int32))), .val (.int z319), .val (.int z320), .val (.int (((vp &&& (2147483647 : Int32)) % (3 : Int32)) - (1 : Int32)))]) X320 hx (hb hby at_415) rfl ?_
                refine E.iload (q := 419) X320 hx (hb hby at_417) rfl ?_
                refine E.iload (q := 421) X320 hx (hb hby at_419) rfl ?_
                refine E.iadd (q := 422) X320 hx (hb hby at_421) ?_
                refine E.istore (q := 424) (l' := #[.val (.int vx), .val (.int vy), .val (.long vh), .second, .val (.int vs), .val (.int vt), .val (.int vp), .val (.int tB), .val (.int pB), .val (.int dp0), .val (.int dt1), .val (.int dp1), .val (.int dt2), .val (.int dp2), .val (.int dt3), .val (.int dp3), .val (.int tB), .val (.int p0), .val (.int t1), .val (.int p1), .val (.int t2), .val (.int p2), .val (.int t3), .val (.int p3), .val (.int (4 : Int32)), .val (.ref b277), .val (.ref b278), .val (.ref b295), .val (.int z319), .val (.int (z320 + (((vp &&& (2147483647 : Int32)) % (3 : Int32)) - (1 : Int32)))), .val (.int (((vs.toUInt32 >>> ((3 : Int32) &&& 31).toUInt32).toInt32) &&& (3 : Int32))), .val (.int ((((vs.toUInt32 >>> ((5 : Int32) &&& 31).toUInt32).toInt32) &&& (3 : Int32)) % (4 : Int32))), .val (.int z319), .val (.int z320), .val (.int (((vp &&& (2147483647 : Int32)) % (3 : Int32)) - (1 : Int32)))]) X320 hx (hb hby at_422) rfl ?_
                refine E.goto (q := 438) X320 hx (hb hby at_424) ?_
                exact JQ _ _ _ _ _ _ _ _ X320 e320 (Or.inr ⟨_, rfl, rfl⟩)
              · refine E.icmpY (q := 427) X320 hx (hb hby at_410) (XT.ii_ne_t hm410) ?_
                refine E.iload (q := 429) X320 hx (hb hby at_427) rfl ?_
                refine E.iload (q := 431) X320 hx (hb hby at_429) rfl ?_
                refine E.iadd (q := 432) X320 hx (hb hby at_431) ?_
                refine E.istore (q := 434) (l' := #[.val (.int vx), .val (.int vy), .val (.long vh), .second, .val (.int vs), .val (.int vt), .val (.int vp), .val (.int tB), .val (.int pB), .val (.int dp0), .val (.int dt1), .val (.int dp1), .val (.int dt2), .val (.int dp2), .val (.int dt3), .val (.int dp3), .val (.int tB), .val (.int p0), .val (.int t1), .val (.int p1), .val (.int t2), .val (.int p2), .val (.int t3), .val (.int p3), .val (.int (4 : Int32)), .val (.ref b277), .val (.ref b278), .val (.ref b295), .val (.int (z319 + (((vp &&& (2147483647 : Int32)) % (3 : Int32)) - (1 : Int32)))), .val (.int vp), .val (.int (((vs.toUInt32 >>> ((3 : Int32) &&& 31).toUInt32).toInt32) &&& (3 : Int32))), .val (.int ((((vs.toUInt32 >>> ((5 : Int32) &&& 31).toUInt32).toInt32) &&& (3 : Int32)) % (4 : Int32))), .val (.int z319), .val (.int z320), .val (.int (((vp &&& (2147483647 : Int32)) % (3 : Int32)) - (1 : Int32)))]) X320 hx (hb hby at_432) rfl ?_
                refine E.iload (q := 436) X320 hx (hb hby at_434) rfl ?_
                refine E.istore (q := 438) (l' := #[.val (.int vx), .val (.int vy), .val (.long vh), .second, .val (.int vs), .val (.int vt), .val (.int vp), .val (.int tB), .val (.int pB), .val (.int dp0), .val (.int dt1), .val (.int dp1), .val (.int dt2), .val (.int dp2), .val (.int dt3), .val (.int dp3), .val (.int tB), .val (.int p0), .val (.int t1), .val (.int p1), .val (.int t2), .val (.int p2), .val (.int t3), .val (.int p3), .val (.int (4 : Int32)), .val (.ref b277), .val (.ref b278), .val (.ref b295), .val (.int (z319 + (((vp &&& (2147483647 : Int32)) % (3 : Int32)) - (1 : Int32)))), .val (.int z320), .val (.int (((vs.toUInt32 >>> ((3 : Int32) &&& 31).toUInt32).toInt32) &&& (3 : Int32))), .val (.int ((((vs.toUInt32 >>> ((5 : Int32) &&& 31).toUInt32).toInt32) &&& (3 : Int32)) % (4 : Int32))), .val (.int z319), .val (.int z320), .val (.int (((vp &&& (2147483647 : Int32)) % (3 : Int32)) - (1 : Int32)))]) X320 hx (hb hby at_436) rfl ?_
                exact JQ _ _ _ _ _ _ _ _ X320 e320 (Or.inr ⟨_, rfl, rfl⟩)
      by_cases hd3 : dt3 = (0 : Int32)
      · refine E.ifN (q := 178) X90 hx (hb hby at_175) (XT.i0_ne_f hd3) ?_
        refine E.iload (q := 180) X90 hx (hb hby at_178) rfl ?_
        refine E.iconst (q := 181) (v := (1 : Int32)) X90 hx (hb hby at_180) rfl ?_
        refine E.iadd (q := 182) X90 hx (hb hby at_181) ?_
        refine E.iload (q := 184) X90 hx (hb hby at_182) rfl ?_
        refine E.iadd (q := 185) X90 hx (hb hby at_184) ?_
        refine E.goto (q := 193) X90 hx (hb hby at_185) ?_
        exact J3 _ (own_stp0 hd3)
      · refine E.ifY (q := 188) X90 hx (hb hby at_175) (XT.i0_ne_t hd3) ?_
        refine E.iload (q := 190) X90 hx (hb hby at_188) rfl ?_
        refine E.iload (q := 192) X90 hx (hb hby at_190) rfl ?_
        refine E.iadd (q := 193) X90 hx (hb hby at_192) ?_
        exact J3 _ (own_stp1 hd3)
    by_cases hd2 : dt2 = (0 : Int32)
    · refine E.ifN (q := 149) X90 hx (hb hby at_146) (XT.i0_ne_f hd2) ?_
      refine E.iload (q := 151) X90 hx (hb hby at_149) rfl ?_
      refine E.iconst (q := 152) (v := (1 : Int32)) X90 hx (hb hby at_151) rfl ?_
      refine E.iadd (q := 153) X90 hx (hb hby at_152) ?_
      refine E.iload (q := 155) X90 hx (hb hby at_153) rfl ?_
      refine E.iadd (q := 156) X90 hx (hb hby at_155) ?_
      refine E.goto (q := 164) X90 hx (hb hby at_156) ?_
      exact J2 _ (own_stp0 hd2)
    · refine E.ifY (q := 159) X90 hx (hb hby at_146) (XT.i0_ne_t hd2) ?_
      refine E.iload (q := 161) X90 hx (hb hby at_159) rfl ?_
      refine E.iload (q := 163) X90 hx (hb hby at_161) rfl ?_
      refine E.iadd (q := 164) X90 hx (hb hby at_163) ?_
      exact J2 _ (own_stp1 hd2)
  by_cases hd1 : dt1 = (0 : Int32)
  · refine E.ifN (q := 120) X90 hx (hb hby at_117) (XT.i0_ne_f hd1) ?_
    refine E.iload (q := 122) X90 hx (hb hby at_120) rfl ?_
    refine E.iconst (q := 123) (v := (1 : Int32)) X90 hx (hb hby at_122) rfl ?_
    refine E.iadd (q := 124) X90 hx (hb hby at_123) ?_
    refine E.iload (q := 126) X90 hx (hb hby at_124) rfl ?_
    refine E.iadd (q := 127) X90 hx (hb hby at_126) ?_
    refine E.goto (q := 135) X90 hx (hb hby at_127) ?_
    exact J1 _ (own_stp0 hd1)
  · refine E.ifY (q := 130) X90 hx (hb hby at_117) (XT.i0_ne_t hd1) ?_
    refine E.iload (q := 132) X90 hx (hb hby at_130) rfl ?_
    refine E.iload (q := 134) X90 hx (hb hby at_132) rfl ?_
    refine E.iadd (q := 135) X90 hx (hb hby at_134) ?_
    exact J1 _ (own_stp1 hd1)
set_option maxRecDepth 65536 in
set_option maxHeartbeats 40000000 in
theorem comes_1 {Post : Tables → Env → Array Value → State → Outcome → State → Prop} (hpost : ∀ tb e args s v u, (limb_1_1.after args s (.returned v) u = true ∧ limb_1_2.after args s (.returned v) u = true) → FrameEnd s (.returned v) u (Jvm.fieldLocs frame_1_writes args s ++ Jvm.arrayLocs frame_1_arrays args s ++ Jvm.staticLocs frame_1_statics s) 24 128 → Post tb e args s (.returned v) u) :
    ArmFor flags0 classFile x code maxLocals ret World_1 tables_1 room_1 Calls_1 rest_1 Pre_1 Post := by
  intro l hfl _ _ p e ha hc hk s m args below hf hA hF happ hP
  obtain ⟨hcalls, hrest, hpre⟩ := hP
  obtain ⟨-, -, -, hnamed, -, -, -, hat⟩ := (Spec.applies_iff hf).mp happ
  obtain ⟨hg, hn⟩ := and_e (Cond.before_iff.mp (show (Jvm.Cond.and given_1 narrow_1).before args s = true from hpre))
  obtain ⟨g0, hg⟩ := and_e hg
  obtain ⟨ga0, hg⟩ := and_e hg
  obtain ⟨ga1, hg⟩ := and_e hg
  obtain ⟨ga2, hg⟩ := and_e hg
  obtain ⟨ga3, hg⟩ := and_e hg
  obtain ⟨ga4, hg⟩ := and_e hg
  obtain ⟨w0, w1, w2, w3, w4, w5, rfl⟩ : ∃ w0 w1 w2 w3 w4 w5 : Value, args = #[w0, w1, w2, w3, w4, w5] := by
    have hs : args.size = 6 := by simpa [Cond.value, given_1] using g0
    obtain ⟨L⟩ := args
    match L, hs with
    | [w0, w1, w2, w3, w4, w5], _ => exact ⟨w0, w1, w2, w3, w4, w5, rfl⟩
  have hw := fun d (hd : d ∈ tables_1) => atoms_spec (ws := Jvm.Cond.code x code maxLocals ret :: tables_1) hat d (List.mem_cons_of_mem _ hd)
  obtain ⟨i0, ei0⟩ := is_v ga0
  obtain rfl : w0 = (.int i0) := Option.some.inj ei0
  obtain ⟨i1, ei1⟩ := is_v ga1
  obtain rfl : w1 = (.int i1) := Option.some.inj ei1
  obtain ⟨i2, ei2⟩ := isL_v ga2
  obtain rfl : w2 = (.long i2) := Option.some.inj ei2
  obtain ⟨i3, ei3⟩ := is_v ga3
  obtain rfl : w3 = (.int i3) := Option.some.inj ei3
  obtain ⟨i4, ei4⟩ := is_v ga4
  obtain rfl : w4 = (.int i4) := Option.some.inj ei4
  obtain ⟨i5, ei5⟩ := is_v hg
  obtain rfl : w5 = (.int i5) := Option.some.inj ei5
  obtain ⟨n, o, h1, h2, h3, _, L, rfl, ⟨rfl, N⟩, hq⟩ := rm0 l s _ hw i0 i1 i2 i3 i4 i5 s.heap p e ha hc hk s m _ below hf ((Spec.applies_iff_loose hf).mp happ).1 ⟨rfl, State.Warmed39.refl s, rfl⟩ trivial
  exact ⟨n, _, h1, h2, h3, hpost _ _ _ _ _ _ ⟨Cond.after_iff.mpr rfl, Cond.after_iff.mpr (eq_i res_at (Term.int_eval (1)) rfl)⟩ ⟨hq.1, hq.2.1, (hq.2.2.sift fun y hy => Or.inr (N y hy)).mono (by decide) (by decide)⟩⟩
theorem main_1_1 : Claimed_1_1 := comes_1 fun _ _ _ _ _ _ h hF => ⟨h.1, hF⟩
theorem main_1_2 : Claimed_1_2 := comes_1 fun _ _ _ _ _ _ h hF => ⟨h.2, hF⟩
end Jvm.Pilot.@@N@@
namespace Jvm.Pilot.@@N@@
open Jvm Jvm.ClassFile Sem Op Lib Jvm.Free Jvm.Stand Jvm.Pilot.@@N@@.Jvm.D
/-! MADE BY PROGRAM (witnessworld.py) out of the Statement's table words and the real class files: 11 classes; the members and pool entries that the words name. The judged class is class 1, her method 2. -/
namespace start1
open Jvm.ClassFile
def u (s : String) : CpInfo := .utf8 (stringToUtf16 s)
/-- a pool by its gaps: so many unusable entries, then the entry; so many at the end -/
def gap : Nat → List CpInfo → List CpInfo
  | 0, r => r
  | n + 1, r => .unusable :: gap n r
def poolList (es : List (Nat × CpInfo)) (last : Nat) : List CpInfo := es.foldr (fun e r => gap e.1 (e.2 :: r)) (gap last [])
def pool (es : List (Nat × CpInfo)) (last : Nat) : Array CpInfo := ⟨poolList es last⟩
def fileOf (pool : Array CpInfo) (this : Nat) (attrs : Array Attribute := #[]) (ms : Array MethodInfo := #[]) (fl : Nat := 33) (sup : Nat := 0) (ifs : Array Nat := #[]) (fds : Array FieldInfo := #[]) : ClassFile where
  minorVersion := 0
  majorVersion := 65
  constantPool := pool
  accessFlags := fl
  thisClass := this
  superClass := sup
  interfaces := ifs
  fields := fds
  methods := ms
  attributes := attrs
def plain (name : String) (sup : Option ClassId) : Class where
  name := name
  kind := .ordinary
  loader := none
  accessFlags := 33
  super := sup
  interfaces := #[]
  cf := none
  fields := #[]
  methods := #[]
  instanceTypes := #[]
  staticTypes := #[]
  resolved := #[]
  callSites := []
  init := .initialized
  statics := none
  mirror := none

def pool0 : Array CpInfo := pool [(5, u "<init>"), (0, u "()V"), (1, .class_ 10), (1, u "java/lang/Object")] 113

def k0c0 : Code := { maxStack := 0, maxLocals := 1, code := object_method_1_code, exceptionTable := #[], attributes := #[] }
def k0m0 : Method := { name := "<init>", desc := "()V", sig := { parameters := [], returnType := none }, accessFlags := 1, code := some k0c0 }
/-- java/lang/Object -/
def k0 : Class := { plain "java/lang/Object" none with
  accessFlags := 33
  interfaces := #[]
  cf := some (fileOf pool0 8 #[] #[{ accessFlags := 1, nameIndex := 5, descriptorIndex := 6, attributes := #[] }] 33 0 #[] #[])
  fields := #[]
  methods := #[k0m0]
  instanceTypes := #[]
  staticTypes := #[]
  resolved := Array.replicate 124 none
  statics := none }

def pool1 : Array CpInfo := pool [(2, .class_ 4), (1, u "java/lang/Object"), (0, u "<init>"), (0, u "()V"), (0, .integer 2147483647), (2, .integer 2147483638), (0, .methodref 12 13), (0, .class_ 14), (0, .nameAndType 15 16), (0, u "java/lang/Math"), (0, u "min"), (0, u "(II)I"), (0, .integer 2147483632), (0, .long 3), (1, .class_ 21), (0, u "com/example/hourline/hourline/network/Timetable$Calls"), (0, .methodref 20 23), (0, .nameAndType 5 24), (0, u "([I[I[I[I[B)V"), (0, .methodref 26 27), (0, .class_ 28), (0, .nameAndType 29 30), (0, u "com/example/hourline/hourline/network/CallsFindPinLaw"), (0, u "pick"), (0, u "(IIIII)I"), (0, .methodref 20 32), (0, .nameAndType 33 16), (0, u "find"), (3, u "law"), (0, u "(IIJIII)Z")] 8

def k1m0 : Method := { name := "<init>", desc := "()V", sig := { parameters := [], returnType := none }, accessFlags := 1, code := none }
def k1c1 : Code := { maxStack := 2, maxLocals := 5, code := method_2_code, exceptionTable := #[], attributes := #[] }
def k1m1 : Method := { name := "pick", desc := "(IIIII)I", sig := { parameters := [.int, .int, .int, .int, .int], returnType := some .int }, accessFlags := 10, code := some k1c1 }
def k1c2 : Code := { maxStack := 7, maxLocals := 35, code := code, exceptionTable := #[], attributes := #[] }
def k1m2 : Method := { name := "law", desc := "(IIJIII)Z", sig := { parameters := [.int, .int, .long, .int, .int, .int], returnType := some .boolean }, accessFlags := 9, code := some k1c2 }
/-- com/example/hourline/hourline/network/CallsFindPinLaw -/
def k1 : Class := { plain "com/example/hourline/hourline/network/CallsFindPinLaw" (some 0) with
  accessFlags := 49
  interfaces := #[]
  cf := some (fileOf pool1 26 #[] #[{ accessFlags := 1, nameIndex := 5, descriptorIndex := 6, attributes := #[] }, { accessFlags := 10, nameIndex := 29, descriptorIndex := 30, attributes := #[] }, { accessFlags := 9, nameIndex := 37, descriptorIndex := 38, attributes := #[] }] 49 2 #[] #[])
  fields := #[]
  methods := #[k1m0, k1m1, k1m2]
  instanceTypes := #[]
  staticTypes := #[]
  resolved := Array.replicate 47 none
  statics := none }

def pool2 : Array CpInfo := pool [(1, .class_ 2), (0, u "java/lang/Math"), (1, .class_ 6), (1, u "java/lang/Object"), (0, u "<init>"), (0, u "()V"), (89, .class_ 100), (1, u "java/lang/Math$RandomNumberGeneratorHolder"), (71, u "negativeZeroFloatBits"), (0, u "J"), (2, u "negativeZeroDoubleBits"), (24, u "min"), (43, u "$assertionsDisabled"), (0, u "Z"), (88, u "(II)I"), (2, u "twoToTheDoubleScaleDown"), (0, u "D"), (4, u "twoToTheDoubleScaleUp"), (9, u "E"), (3, u "PI"), (2, u "TAU"), (2, u "DEGREES_TO_RADIANS"), (0, u "RADIANS_TO_DEGREES")] 94

def k2m0 : Method := { name := "<init>", desc := "()V", sig := { parameters := [], returnType := none }, accessFlags := 2, code := none }
def k2c1 : Code := { maxStack := 2, maxLocals := 2, code := jdk_29_method_69_code, exceptionTable := #[], attributes := #[] }
def k2m1 : Method := { name := "min", desc := "(II)I", sig := { parameters := [.int, .int], returnType := some .int }, accessFlags := 9, code := some k2c1 }
/-- java/lang/Math -/
def k2 : Class := { plain "java/lang/Math" (some 0) with
  accessFlags := 49
  interfaces := #[]
  cf := some (fileOf pool2 1 #[.nestMembers #[98]] #[{ accessFlags := 2, nameIndex := 7, descriptorIndex := 8, attributes := #[] }, { accessFlags := 9, nameIndex := 201, descriptorIndex := 335, attributes := #[] }] 49 4 #[] #[{ accessFlags := 25, nameIndex := 354, descriptorIndex := 339, attributes := #[] }, { accessFlags := 25, nameIndex := 358, descriptorIndex := 339, attributes := #[] }, { accessFlags := 25, nameIndex := 361, descriptorIndex := 339, attributes := #[] }, { accessFlags := 26, nameIndex := 364, descriptorIndex := 339, attributes := #[] }, { accessFlags := 26, nameIndex := 365, descriptorIndex := 339, attributes := #[] }, { accessFlags := 26, nameIndex := 172, descriptorIndex := 173, attributes := #[] }, { accessFlags := 26, nameIndex := 176, descriptorIndex := 173, attributes := #[] }, { accessFlags := 8, nameIndex := 344, descriptorIndex := 339, attributes := #[] }, { accessFlags := 8, nameIndex := 338, descriptorIndex := 339, attributes := #[] }, { accessFlags := 4120, nameIndex := 245, descriptorIndex := 246, attributes := #[] }])
  fields := #[{ name := "E", type := .double, accessFlags := 25, slot := 0, constantValue := 0 }, { name := "PI", type := .double, accessFlags := 25, slot := 1, constantValue := 0 }, { name := "TAU", type := .double, accessFlags := 25, slot := 2, constantValue := 0 }, { name := "DEGREES_TO_RADIANS", type := .double, accessFlags := 26, slot := 3, constantValue := 0 }, { name := "RADIANS_TO_DEGREES", type := .double, accessFlags := 26, slot := 4, constantValue := 0 }, { name := "negativeZeroFloatBits", type := .long, accessFlags := 26, slot := 5, constantValue := 0 }, { name := "negativeZeroDoubleBits", type := .long, accessFlags := 26, slot := 6, constantValue := 0 }, { name := "twoToTheDoubleScaleUp", type := .double, accessFlags := 8, slot := 7, constantValue := 0 }, { name := "twoToTheDoubleScaleDown", type := .double, accessFlags := 8, slot := 8, constantValue := 0 }, { name := "$assertionsDisabled", type := .boolean, accessFlags := 4120, slot := 9, constantValue := 0 }]
  methods := #[k2m0, k2m1]
  instanceTypes := #[]
  staticTypes := #[.double, .double, .double, .double, .double, .long, .long, .double, .double, .boolean]
  resolved := Array.replicate 460 none
  statics := none }

def pool3 : Array CpInfo := pool [(1, .methodref 2 3), (0, .class_ 4), (0, .nameAndType 5 6), (0, u "java/lang/Object"), (0, u "<init>"), (0, u "()V"), (0, .class_ 8), (0, u "java/lang/Record")] 13

def k3c0 : Code := { maxStack := 1, maxLocals := 1, code := jdk_30_method_1_code, exceptionTable := #[], attributes := #[] }
def k3m0 : Method := { name := "<init>", desc := "()V", sig := { parameters := [], returnType := none }, accessFlags := 4, code := some k3c0 }
/-- java/lang/Record -/
def k3 : Class := { plain "java/lang/Record" (some 0) with
  accessFlags := 1057
  interfaces := #[]
  cf := some (fileOf pool3 7 #[] #[{ accessFlags := 4, nameIndex := 5, descriptorIndex := 6, attributes := #[] }] 1057 2 #[] #[])
  fields := #[]
  methods := #[k3m0]
  instanceTypes := #[]
  staticTypes := #[]
  resolved := Array.replicate 22 none
  statics := none }

def pool4 : Array CpInfo := pool [(1, .methodref 2 3), (0, .class_ 4), (0, .nameAndType 5 6), (0, u "java/lang/Record"), (0, u "<init>"), (0, u "()V"), (0, .fieldref 8 9), (0, .class_ 10), (0, .nameAndType 11 12), (0, u "com/example/hourline/hourline/network/Timetable$Calls"), (0, u "trips"), (0, u "[I"), (0, .fieldref 8 14), (0, .nameAndType 15 12), (0, u "positions"), (0, .fieldref 8 17), (0, .nameAndType 18 12), (0, u "arrivals"), (0, .fieldref 8 20), (0, .nameAndType 21 12), (0, u "departures"), (0, .fieldref 8 23), (0, .nameAndType 24 25), (0, u "kinds"), (0, u "[B"), (47, u "LAST"), (0, u "I"), (2, u "OF_RUNS"), (1, u "NO_PICKUP"), (1, u "NO_DROP_OFF"), (1, u "([I[I[I[I[B)V"), (9, u "find"), (0, u "(II)I"), (6, .class_ 102), (0, u "com/example/hourline/hourline/network/Timetable")] 26

def k4c0 : Code := { maxStack := 2, maxLocals := 6, code := prog_144_method_1_code, exceptionTable := #[], attributes := #[] }
def k4m0 : Method := { name := "<init>", desc := "([I[I[I[I[B)V", sig := { parameters := [(.array .int), (.array .int), (.array .int), (.array .int), (.array .byte)], returnType := none }, accessFlags := 0, code := some k4c0 }
def k4c1 : Code := { maxStack := 4, maxLocals := 8, code := prog_144_method_7_code, exceptionTable := #[], attributes := #[] }
def k4m1 : Method := { name := "find", desc := "(II)I", sig := { parameters := [.int, .int], returnType := some .int }, accessFlags := 0, code := some k4c1 }
/-- com/example/hourline/hourline/network/Timetable$Calls -/
def k4 : Class := { plain "com/example/hourline/hourline/network/Timetable$Calls" (some 3) with
  accessFlags := 48
  interfaces := #[]
  cf := some (fileOf pool4 8 #[.nestHost 101] #[{ accessFlags := 0, nameIndex := 5, descriptorIndex := 83, attributes := #[] }, { accessFlags := 0, nameIndex := 93, descriptorIndex := 94, attributes := #[] }] 48 2 #[] #[{ accessFlags := 18, nameIndex := 11, descriptorIndex := 12, attributes := #[] }, { accessFlags := 18, nameIndex := 15, descriptorIndex := 12, attributes := #[] }, { accessFlags := 18, nameIndex := 18, descriptorIndex := 12, attributes := #[] }, { accessFlags := 18, nameIndex := 21, descriptorIndex := 12, attributes := #[] }, { accessFlags := 18, nameIndex := 24, descriptorIndex := 25, attributes := #[] }, { accessFlags := 24, nameIndex := 73, descriptorIndex := 74, attributes := #[] }, { accessFlags := 24, nameIndex := 77, descriptorIndex := 74, attributes := #[] }, { accessFlags := 24, nameIndex := 79, descriptorIndex := 74, attributes := #[] }, { accessFlags := 24, nameIndex := 81, descriptorIndex := 74, attributes := #[] }])
  fields := #[{ name := "trips", type := (.array .int), accessFlags := 18, slot := 0, constantValue := 0 }, { name := "positions", type := (.array .int), accessFlags := 18, slot := 1, constantValue := 0 }, { name := "arrivals", type := (.array .int), accessFlags := 18, slot := 2, constantValue := 0 }, { name := "departures", type := (.array .int), accessFlags := 18, slot := 3, constantValue := 0 }, { name := "kinds", type := (.array .byte), accessFlags := 18, slot := 4, constantValue := 0 }, { name := "LAST", type := .int, accessFlags := 24, slot := 0, constantValue := 0 }, { name := "OF_RUNS", type := .int, accessFlags := 24, slot := 1, constantValue := 0 }, { name := "NO_PICKUP", type := .int, accessFlags := 24, slot := 2, constantValue := 0 }, { name := "NO_DROP_OFF", type := .int, accessFlags := 24, slot := 3, constantValue := 0 }]
  methods := #[k4m0, k4m1]
  instanceTypes := #[(.array .int), (.array .int), (.array .int), (.array .int), (.array .byte)]
  staticTypes := #[.int, .int, .int, .int]
  resolved := Array.replicate 129 none
  statics := none }

def pool5 : Array CpInfo := pool [(1, u "java/lang/Cloneable"), (0, .class_ 1), (0, u "java/lang/Object"), (0, .class_ 3)] 3

/-- java/lang/Cloneable -/
def k5 : Class := { plain "java/lang/Cloneable" (some 0) with
  accessFlags := 1537
  interfaces := #[]
  cf := some (fileOf pool5 2 #[] #[] 1537 4 #[] #[])
  fields := #[]
  methods := #[]
  instanceTypes := #[]
  staticTypes := #[]
  resolved := Array.replicate 8 none
  statics := none }

def pool6 : Array CpInfo := pool [(1, u "java/io/Serializable"), (0, .class_ 1), (0, u "java/lang/Object"), (0, .class_ 3)] 3

/-- java/io/Serializable -/
def k6 : Class := { plain "java/io/Serializable" (some 0) with
  accessFlags := 1537
  interfaces := #[]
  cf := some (fileOf pool6 2 #[] #[] 1537 4 #[] #[])
  fields := #[]
  methods := #[]
  instanceTypes := #[]
  staticTypes := #[]
  resolved := Array.replicate 8 none
  statics := none }

/-- the primitive byte -/
def k7 : Class := { plain "byte" none with kind := .primitive 'B', accessFlags := 0x411 }
/-- [B -/
def k8 : Class := { plain "[B" (some 0) with kind := .array 7 .byte, interfaces := #[5, 6], accessFlags := 1041 }

/-- the primitive int -/
def k9 : Class := { plain "int" none with kind := .primitive 'I', accessFlags := 0x411 }
/-- [I -/
def k10 : Class := { plain "[I" (some 0) with kind := .array 9 .int, interfaces := #[5, 6], accessFlags := 1041 }

def heap : Heap := #[]
def classes : Array Class := #[k0, k1, k2, k3, k4, k5, k6, k7, k8, k9, k10]
def interned : List (Array UInt16 × Addr) := []
def slotsUsed : Nat := 0
def theMethod : MethodId := ⟨1, 2⟩
def args0 : Array Value := #[.int 5, .int 2, .long 7, .int 3, .int 4, .int 1]
def aboutOver (below : List Frame) : State where
  vm := { classes := classes, interned := interned.toArray }
  heap := heap
  slotsUsed := slotsUsed
  threads := #[{ frames := .invoking theMethod args0 :: below }]
def below0 : List Frame := [.native { method := ⟨0, 0⟩, args := #[] }]
def about1 : State := aboutOver below0
def p0 : Program := .bare "" "" ""
def e0 : Env := launch0.env 0 0 0
theorem w_frames : about1.frames = Frame.invoking theMethod args0 :: below0 := rfl
set_option maxRecDepth 65536 in
theorem w_args : argsFit about1.vm theMethod args0 = true := by decide +kernel
set_option maxRecDepth 65536 in
theorem w_heap : heapFits about1 = true := by decide +kernel
set_option maxRecDepth 65536 in
theorem w_runnable : about1.curStatus? = some .runnable := by decide +kernel
set_option maxRecDepth 65536 in
theorem w_alone : about1.alone = true := by decide +kernel
set_option maxRecDepth 65536 in
theorem w_named : about1.methodNamed? x = some theMethod := by decide +kernel
set_option maxRecDepth 65536 in
theorem w_hears : about1.hears theMethod below0 = true := by decide +kernel
set_option maxRecDepth 65536 in
theorem w_ripe : about1.ripe theMethod args0 below0 = true := by decide +kernel
theorem w_running : about1.status = .running := rfl
set_option maxRecDepth 65536 in
theorem w_room : about1.hasRoom e0.platform room_1 = true :=
  launch0.hasRoom_least _ room_1 (by decide +kernel) (by decide +kernel) (by decide +kernel) (by decide +kernel) (by decide +kernel) (by decide +kernel)
theorem allAtoms_all (ts : List Jvm.Cond) (a : Array Jvm.Value) (st : Jvm.State) : (allAtoms ts).before a st = ts.all (fun c => c.before a st) := by
  induction ts with
  | nil => rfl
  | cons c t ih =>
    show (Jvm.Cond.and c (allAtoms t)).before a st = _
    rw [Jvm.Cond.before_and, ih, List.all_cons]
def words1 : List Jvm.Cond := Jvm.Cond.code x code maxLocals ret :: tables_1
/-- a 'code' word, met by the world's own term for the bytes: nothing is compared byte by byte -/
theorem code_word {y : MethodName} {bytes : ByteArray} {mx : Nat} {rt : Option FieldType} {a : Array Value} {s : State} {m : MethodId} {meth : Method} {c : Code} (h1 : s.methodNamed? y = some m) (h2 : s.vm.method? m = some meth) (h3 : meth.code = some c) (h4 : c.code = bytes)
    (h5 : (c.maxLocals == mx && c.exceptionTable.isEmpty && decide (c.maxStack ≤ mostOperands) && decide (meth.sig.returnType = rt) && !meth.locks && decide (parseMethodDescriptor y.desc = some meth.sig)) = true) : (Jvm.Cond.code y bytes mx rt).before a s = true := by
  simp only [Bool.and_eq_true, beq_iff_eq, Bool.not_eq_true', decide_eq_true_eq] at h5
  obtain ⟨⟨⟨⟨⟨g1, g2⟩, g3⟩, g4⟩, g5⟩, g6⟩ := h5
  simp [Cond.before, Cond.holds, Cond.value, h1, h2, h3, h4, g1, g2, g3, g4, g5, g6]
def isCode : Jvm.Cond → Bool
  | .code _ _ _ _ => true
  | _ => false
theorem all_split {L : List Jvm.Cond} {P : Jvm.Cond → Bool} (h1 : L.all (fun c => isCode c || P c) = true) (h2 : ∀ c ∈ L.filter isCode, P c = true) : L.all P = true := by
  refine List.all_eq_true.mpr fun c hc => ?_
  have h := List.all_eq_true.mp h1 c hc
  rcases Bool.eq_false_or_eq_true (isCode c) with hi | hi
  · exact h2 c (List.mem_filter.mpr ⟨hc, hi⟩)
  · simpa [hi] using h
set_option maxRecDepth 65536 in
theorem w_c0 : (Jvm.Cond.code x code maxLocals ret).before args0 about1 = true := code_word (m := ⟨1, 2⟩) (meth := k1m2) (c := k1c2) (by decide +kernel) rfl rfl rfl (by decide +kernel)
set_option maxRecDepth 65536 in
theorem w_c1 : (Jvm.Cond.code ({ cls := "java/lang/Math", name := "min", desc := "(II)I" } : Jvm.MethodName) jdk_29_method_69_code (2 : Nat) (Option.some Jvm.ClassFile.FieldType.int)).before args0 about1 = true := code_word (m := ⟨2, 1⟩) (meth := k2m1) (c := k2c1) (by decide +kernel) rfl rfl rfl (by decide +kernel)
set_option maxRecDepth 65536 in
theorem w_c2 : (Jvm.Cond.code ({ cls := "com/example/hourline/hourline/network/Timetable$Calls", name := "<init>", desc := "([I[I[I[I[B)V" } : Jvm.MethodName) prog_144_method_1_code (6 : Nat) (Option.none : Option Jvm.ClassFile.FieldType)).before args0 about1 = true := code_word (m := ⟨4, 0⟩) (meth := k4m0) (c := k4c0) (by decide +kernel) rfl rfl rfl (by decide +kernel)
set_option maxRecDepth 65536 in
theorem w_c3 : (Jvm.Cond.code ({ cls := "java/lang/Record", name := "<init>", desc := "()V" } : Jvm.MethodName) jdk_30_method_1_code (1 : Nat) (Option.none : Option Jvm.ClassFile.FieldType)).before args0 about1 = true := code_word (m := ⟨3, 0⟩) (meth := k3m0) (c := k3c0) (by decide +kernel) rfl rfl rfl (by decide +kernel)
set_option maxRecDepth 65536 in
theorem w_c4 : (Jvm.Cond.code ({ cls := "java/lang/Object", name := "<init>", desc := "()V" } : Jvm.MethodName) object_method_1_code (1 : Nat) (Option.none : Option Jvm.ClassFile.FieldType)).before args0 about1 = true := code_word (m := ⟨0, 0⟩) (meth := k0m0) (c := k0c0) (by decide +kernel) rfl rfl rfl (by decide +kernel)
set_option maxRecDepth 65536 in
theorem w_c5 : (Jvm.Cond.code ({ cls := "com/example/hourline/hourline/network/Timetable$Calls", name := "find", desc := "(II)I" } : Jvm.MethodName) prog_144_method_7_code (8 : Nat) (Option.some Jvm.ClassFile.FieldType.int)).before args0 about1 = true := code_word (m := ⟨4, 1⟩) (meth := k4m1) (c := k4c1) (by decide +kernel) rfl rfl rfl (by decide +kernel)
set_option maxRecDepth 65536 in
theorem w_c6 : (Jvm.Cond.code ({ cls := "com/example/hourline/hourline/network/CallsFindPinLaw", name := "pick", desc := "(IIIII)I" } : Jvm.MethodName) method_2_code (5 : Nat) (Option.some Jvm.ClassFile.FieldType.int)).before args0 about1 = true := code_word (m := ⟨1, 1⟩) (meth := k1m1) (c := k1c1) (by decide +kernel) rfl rfl rfl (by decide +kernel)
def codes1 : List Jvm.Cond := [Jvm.Cond.code x code maxLocals ret, Jvm.Cond.code ({ cls := "java/lang/Math", name := "min", desc := "(II)I" } : Jvm.MethodName) jdk_29_method_69_code (2 : Nat) (Option.some Jvm.ClassFile.FieldType.int), Jvm.Cond.code ({ cls := "com/example/hourline/hourline/network/Timetable$Calls", name := "<init>", desc := "([I[I[I[I[B)V" } : Jvm.MethodName) prog_144_method_1_code (6 : Nat) (Option.none : Option Jvm.ClassFile.FieldType), Jvm.Cond.code ({ cls := "java/lang/Record", name := "<init>", desc := "()V" } : Jvm.MethodName) jdk_30_method_1_code (1 : Nat) (Option.none : Option Jvm.ClassFile.FieldType), Jvm.Cond.code ({ cls := "java/lang/Object", name := "<init>", desc := "()V" } : Jvm.MethodName) object_method_1_code (1 : Nat) (Option.none : Option Jvm.ClassFile.FieldType), Jvm.Cond.code ({ cls := "com/example/hourline/hourline/network/Timetable$Calls", name := "find", desc := "(II)I" } : Jvm.MethodName) prog_144_method_7_code (8 : Nat) (Option.some Jvm.ClassFile.FieldType.int), Jvm.Cond.code ({ cls := "com/example/hourline/hourline/network/CallsFindPinLaw", name := "pick", desc := "(IIIII)I" } : Jvm.MethodName) method_2_code (5 : Nat) (Option.some Jvm.ClassFile.FieldType.int)]
set_option maxRecDepth 65536 in
theorem codes_eq : words1.filter isCode = codes1 := rfl
theorem w_codes : ∀ c ∈ words1.filter isCode, c.before args0 about1 = true := by
  rw [codes_eq]
  intro c hc
  simp only [codes1, List.mem_cons, List.not_mem_nil, or_false] at hc
  rcases hc with rfl | rfl | rfl | rfl | rfl | rfl | rfl
  · exact w_c0
  · exact w_c1
  · exact w_c2
  · exact w_c3
  · exact w_c4
  · exact w_c5
  · exact w_c6
set_option maxRecDepth 65536 in
theorem w_t1 : (words1.take 24).all (fun c => isCode c || c.before args0 about1) = true := by decide +kernel
set_option maxRecDepth 65536 in
theorem w_t2 : (words1.drop 24).all (fun c => isCode c || c.before args0 about1) = true := by decide +kernel
theorem w_tables : (allAtoms (Jvm.Cond.code x code maxLocals ret :: tables_1)).before args0 about1 = true := by
  rw [allAtoms_all]
  show words1.all (fun c => c.before args0 about1) = true
  refine all_split ?_ w_codes
  rw [← List.take_append_drop 24 words1, List.all_append, w_t1, w_t2]
  rfl
set_option maxRecDepth 65536 in
theorem w_case : (Jvm.Cond.and given_1 narrow_1).before args0 about1 = true := by decide +kernel
theorem w_applies : (headSpec (Jvm.Cond.code x code maxLocals ret :: tables_1) room_1).applies x e0.platform about1 = true :=
  (Spec.applies_iff w_frames).mpr ⟨w_running, w_runnable, w_alone, w_named, w_hears, w_ripe, w_room, w_tables⟩
theorem atStart : AtStart classFile x code maxLocals ret World_1 tables_1 room_1 Calls_1 rest_1 Pre_1 launch0 p0 e0 about1 theMethod args0 below0 :=
  ⟨lists_1, trivial, launch0.admits_env _ _ _, launch0.least_env, fairChoices_fair.cas, fairChoices_fair.clock, w_frames, w_args, w_heap, w_applies, trivial, trivial, w_case⟩
end start1
theorem witness_1 : WitnessClaimed_1 := ⟨start1.p0, start1.e0, start1.about1, start1.theMethod, start1.args0, start1.below0, start1.atStart⟩
end Jvm.Pilot.@@N@@
