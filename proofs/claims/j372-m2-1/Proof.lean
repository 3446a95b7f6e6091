import JvmDerived
import JvmDerived.Pilot.@@N@@Statement
import JvmDerived.Pilot.@@N@@Code
set_option linter.unusedVariables false
set_option linter.unusedSimpArgs false
namespace Jvm.Pilot.@@N@@
open Jvm Jvm.ClassFile Sem Op Lib Jvm.Free Jvm.Stand Jvm.LawKit Jvm.RoadKit Bundle Jvm.Pilot.@@N@@.Jvm.D
section Own
variable {p : Program} {l : Launch} {e : Env} {R : Room} {s : State} {m : MethodId} {args : Array Value} {below : List Frame} {meth : Method} {c : Code} {T : State} {locs : List Loc} {cells slots : Nat} {Z : State} {a0 : Array Value} {h h' : Heap} {Q : Option Value → Heap → List Loc → Prop} {rc rs : Nat}
/-- from here the run comes to its return, and what it leaves is Q -/
def Ends (p : Program) (e : Env) (below : List Frame) (s : State) (Q : Option Value → Heap → List Loc → Prop) (rc rs : Nat) (T : State) (g : JFrame) : Prop :=
  ∃ s₂ o, Steps p.tables e below (T.setTop g) s₂ ∧ s₂.status = .running ∧ Ended s₂ below o ∧ ∃ v L, o = .returned v ∧ Q v s₂.heap L ∧ FrameEnd s o s₂ L rc rs
theorem go {T' : State} {g g' : JFrame} (f : ∀ t, Steps p.tables e below (T'.setTop g') t → Steps p.tables e below (T.setTop g) t) (k : Ends p e below s Q rc rs T' g') : Ends p e below s Q rc rs T g := by
  obtain ⟨s₂, o, h1, r⟩ := k
  exact ⟨s₂, o, f _ h1, r⟩
theorem goS {T' : State} {g g' : JFrame} (f : Steps p.tables e below (T.setTop g) (T'.setTop g')) (k : Ends p e below s Q rc rs T' g') : Ends p e below s Q rc rs T g := by
  obtain ⟨s₂, o, h1, r⟩ := k
  exact ⟨s₂, o, f.trans h1, r⟩
theorem retI (X : Stand p l e R s m args below meth c T locs cells slots) (hx : p.tables.exec = Jvm.exec) {pc : Nat} {Ls : Array Slot} {z : Int32} {rest : List Value} (hret : meth.sig.returnType = some .int) (hd : decode c.code pc = .ok (.ireturn, 1)) {fs : List Frame}
    (hl : ∀ (f : JFrame) (acts : List Action), f.method = m → f.locked = none → f.entered = [] → (doReturn e (T.setTop f) acts (some (.int z))).1 = T.setFrames fs) : Steps p.tables e below (T.setTop (mkF m pc Ls (.int z :: rest))) (T.setFrames fs) := by
  have hm' : T.vm.method? m = some meth := X.method'
  have hn : narrow .int (.int z) = .int z := rfl
  show Steps p.tables e below (T.setTop { method := m, pc := pc, locals := Ls, stack := _ :: rest, locked := none }) _
  jvm_step X.here [X.here.top, hx, hd, hm', hret, hn]
  first | (intro acts; rw [hl _ acts rfl rfl rfl]) | rw [hl _ _ rfl rfl rfl]
  exact Steps.refl _
theorem endI (X : Stand p l e R s m args below meth c T locs cells slots) (hx : p.tables.exec = Jvm.exec) (hlk : meth.locks = false) {pc : Nat} {Ls : Array Slot} {z : Int32} {rest : List Value} (hret : meth.sig.returnType = some .int) (hd : decode c.code pc = .ok (.ireturn, 1)) (eT : T.heap = h) (hq : Q (some (.int z)) h locs) (hc : cells ≤ rc) (hs : slots ≤ rs) :
    Ends p e below s Q rc rs T (mkF m pc Ls (.int z :: rest)) := by
  subst eT
  obtain ⟨fs, hr, hrun, hended, hW, hsame⟩ := X.leave (v := some (.int z)) (fun h => by rw [hret] at h; cases h) hlk
  exact ⟨_, _, retI X hx hret hd hr, hrun, hended, _, _, rfl, hq, ⟨_, rfl⟩, hW, hsame.mono hc hs⟩
/-- a boolean, byte, char or short: what is returned is narrowed -/
theorem endN (X : Stand p l e R s m args below meth c T locs cells slots) (hx : p.tables.exec = Jvm.exec) (hlk : meth.locks = false) {pc : Nat} {Ls : Array Slot} {z : Int32} {t : FieldType} {rest : List Value} (hret : meth.sig.returnType = some t) (ht : t = .boolean ∨ t = .byte ∨ t = .char ∨ t = .short) (hd : decode c.code pc = .ok (.ireturn, 1)) (eT : T.heap = h) (hq : Q (some (.int (nar t z))) h locs) (hc : cells ≤ rc) (hs : slots ≤ rs) :
    Ends p e below s Q rc rs T (mkF m pc Ls (.int z :: rest)) := by
  subst eT
  obtain ⟨fs, hr, hrun, hended, hW, hsame⟩ := X.leave (v := some (.int (nar t z))) (fun h => by rw [hret] at h; cases h) hlk
  exact ⟨_, _, retN X hx hret ht hd hr, hrun, hended, _, _, rfl, hq, ⟨_, rfl⟩, hW, hsame.mono hc hs⟩
theorem endA (X : Stand p l e R s m args below meth c T locs cells slots) (hx : p.tables.exec = Jvm.exec) (hlk : meth.locks = false) {pc : Nat} {Ls : Array Slot} {w : Value} {t : FieldType} {rest : List Value} (hret : meth.sig.returnType = some t) (ht : t.isReference = true) (hw : w.isRef = true) (hd : decode c.code pc = .ok (.areturn, 1)) (eT : T.heap = h) (hq : Q (some w) h locs) (hc : cells ≤ rc) (hs : slots ≤ rs) :
    Ends p e below s Q rc rs T (mkF m pc Ls (w :: rest)) := by
  subst eT
  obtain ⟨fs, hr, hrun, hended, hW, hsame⟩ := X.leave (v := some w) (fun h => by rw [hret] at h; cases h) hlk
  have hn : narrow t w = w := by rcases ref_cases hw with rfl | ⟨b, rfl⟩ <;> cases t <;> rfl
  exact ⟨_, _, retOut X hx hret hn (Or.inr (Or.inr (Or.inr (Or.inr ⟨rfl, ht, hw⟩)))) hd hr, hrun, hended, _, _, rfl, hq, ⟨_, rfl⟩, hW, hsame.mono hc hs⟩
theorem endJ (X : Stand p l e R s m args below meth c T locs cells slots) (hx : p.tables.exec = Jvm.exec) (hlk : meth.locks = false) {pc : Nat} {Ls : Array Slot} {z : Int64} {rest : List Value} (hret : meth.sig.returnType = some .long) (hd : decode c.code pc = .ok (.lreturn, 1)) (eT : T.heap = h) (hq : Q (some (.long z)) h locs) (hc : cells ≤ rc) (hs : slots ≤ rs) :
    Ends p e below s Q rc rs T (mkF m pc Ls (.long z :: rest)) := by
  subst eT
  obtain ⟨fs, hr, hrun, hended, hW, hsame⟩ := X.leave (v := some (.long z)) (fun h => by rw [hret] at h; cases h) hlk
  exact ⟨_, _, retOut X hx hret rfl (Or.inr (Or.inl ⟨rfl, rfl, z, rfl⟩)) hd hr, hrun, hended, _, _, rfl, hq, ⟨_, rfl⟩, hW, hsame.mono hc hs⟩
theorem endV (X : Stand p l e R s m args below meth c T locs cells slots) (hx : p.tables.exec = Jvm.exec) (hlk : meth.locks = false) {pc : Nat} {Ls : Array Slot} (hret : meth.sig.returnType = none) (hd : decode c.code pc = .ok (.return_, 1)) (eT : T.heap = h) (hq : Q none h locs) (hc : cells ≤ rc) (hs : slots ≤ rs) :
    Ends p e below s Q rc rs T (mkF m pc Ls []) := by
  subst eT
  obtain ⟨fs, hr, hrun, hended, hW, hsame⟩ := X.leave (v := none) (fun _ => rfl) hlk
  exact ⟨_, _, X.returnOut hx hret hd hr, hrun, hended, _, _, rfl, hq, ⟨_, rfl⟩, hW, hsame.mono hc hs⟩
/-- a method's contract, at one heap and one list of arguments -/
def Con (l : Launch) (y : MethodName) (bytes : ByteArray) (maxL : Nat) (ret : Option FieldType) (rm : Room) (Z : State) (as' : Array Value) (h0 : Heap) (Q : Option Value → Heap → List Loc → Prop) : Prop :=
  ∀ ws, MetFree l y (head1 (Jvm.Cond.code y bytes maxL ret :: ws) rm) (fun a U => a = as' ∧ Z.Warmed39 U.vm ∧ U.heap = h0) (fun _ _ _ _ _ => True) (fun _ U o U' => ∃ v L, o = .returned v ∧ Q v U'.heap L ∧ FrameEnd U o U' L rm.cells rm.slots)
theorem Con.of {y : MethodName} {bytes : ByteArray} {maxL : Nat} {ret : Option FieldType} {rm : Room} {as' : Array Value} {h0 : Heap} (hp : plainFor y = true) {Ls : Array Slot} (hef : ∀ m, entryFrame m as' maxL = mkF m 0 Ls [])
    (body : ∀ {p : Program} {e : Env} {s : State} {m : MethodId} {below : List Frame} {meth : Method} {c : Code} {T : State}, Stand p l e rm s m as' below meth c T [] 0 0 → p.tables.exec = Jvm.exec → Z.Warmed39 s.vm → c.code = bytes → c.maxLocals = maxL → s.vm.findClass y.cls = some m.cls → meth.name = y.name → meth.sig.returnType = ret → meth.locks = false → T.heap = h0 → Ends p e below s Q rm.cells rm.slots T (mkF m 0 Ls [])) :
    Con l y bytes maxL ret rm Z as' h0 Q := by
  intro ws
  refine MetFree.of_bodySF hp hisR ?_
  intro p e s m args below meth c s₁ Bd hml0 hP hK
  obtain ⟨rfl, hZ, hh⟩ := hP
  have X0 : Stand p l e rm s m _ below meth c s₁ [] 0 0 := Stand.of_body Bd
  have e0 : s₁.heap = h0 := by rw [← hh, Bd.state]; rfl
  obtain ⟨s₂, o, h1, r⟩ := body X0 Bd.exec hZ Bd.bytes hml0 (findClass_of_methodNamed Bd.named) (name_of_methodNamed Bd.named Bd.method).1 Bd.returns Bd.notSynchronized e0
  exact ⟨s₂, o, castTop (hef m) h1, r⟩
theorem cStat {own : String} {index : Nat} {y : MethodName} {bytes : ByteArray} {maxL : Nat} {ret : Option FieldType} {rm : Room} {Q' : Option Value → Heap → List Loc → Prop} {pc : Nat} {Ls : Array Slot} {st : List Value}
    (X : Stand p l e R s m args below meth c T locs cells slots) (hx : p.tables.exec = Jvm.exec) (hZ : Z.Warmed39 s.vm) (hown : s.vm.findClass own = some m.cls) (hml : Ls.size = c.maxLocals) (eT : T.heap = h)
    (w1 : (Cond.methodLink own index y).before a0 Z = true) (w2 : (Cond.static y).before a0 Z = true) (w3 : (Cond.initialized y.cls).before a0 Z = true) (w4 : (Cond.code y bytes maxL ret).before a0 Z = true)
    (argsL rest : List Value) {as' : Array Value} (has : argsL.toArray = as') (hM : Con l y bytes maxL ret rm Z as' h Q') (hd : decode c.code pc = .ok (.invokestatic index, 3)) (hst : st = argsL.reverse ++ rest)
    (hlen : ∀ sig, parseMethodDescriptor y.desc = some sig → argsL.length = sig.parameters.length) (hy : y.cls ≠ "java/lang/invoke/MethodHandle" ∧ y.cls ≠ "java/lang/invoke/VarHandle")
    (hf : rm.frames + 1 ≤ R.frames) (hl : (rest.map fun v => v.category).sum + (maxL + 11) + rm.locals ≤ R.locals) (hc : cells + rm.cells ≤ R.cells) (hs : slots + rm.slots ≤ R.slots)
    (k : ∀ v T' h' L, Stand p l e R s m args below meth c T' (locs ++ L) (cells + rm.cells) (slots + rm.slots) → T'.heap = h' → Q' v h' L → Ends p e below s Q rc rs T' (mkF m (pc + 3) Ls (v.toList ++ rest))) :
    Ends p e below s Q rc rs T (mkF m pc Ls st) := by
  subst has
  obtain ⟨v, _, ⟨T', L', k', n'⟩, -, X', ⟨Lc, hQ, e1, e2, e3⟩, stp⟩ := Jvm.LawKit.callS X hx (y := y) hown (mvT hZ w1) (mvT hZ w2) (mvT hZ w3) (mvT hZ w4) hy (backOf (W := (rest.map fun v => v.category).sum) (hM []) hZ w4 w3 hf hl) (g := mkF m pc Ls st) rfl hml (argsL := argsL) (rest := rest) hlen hst (by show 2 * 0 + _ ≤ _; omega) hd (fun _ _ => ⟨rfl, eT, hc, hs⟩)
  dsimp only [Pt.U, Pt.locs, Pt.cells, Pt.slots] at X' e1 e2 e3 stp hQ
  subst e1 e2 e3
  exact go stp (k v T' _ Lc X' rfl hQ)
theorem cInit {own : String} {index : Nat} {y : MethodName} {bytes : ByteArray} {maxL : Nat} {rm : Room} {Q' : Option Value → Heap → List Loc → Prop} {pc : Nat} {Ls : Array Slot} {st : List Value}
    (X : Stand p l e R s m args below meth c T locs cells slots) (hx : p.tables.exec = Jvm.exec) (hZ : Z.Warmed39 s.vm) (hown : s.vm.findClass own = some m.cls) (hml : Ls.size = c.maxLocals) (eT : T.heap = h)
    (w1 : (Cond.methodLink own index y).before a0 Z = true) (w2 : (Cond.instanceMethod y).before a0 Z = true) (w3 : (Cond.initialized y.cls).before a0 Z = true) (w4 : (Cond.code y bytes maxL none).before a0 Z = true)
    (a : Addr) (argsL rest : List Value) {as' : Array Value} (has : (.ref a :: argsL).toArray = as') (hM : Con l y bytes maxL none rm Z as' h Q') (hd : decode c.code pc = .ok (.invokespecial index, 3)) (hst : st = argsL.reverse ++ .ref a :: rest)
    (hlen : ∀ sig, parseMethodDescriptor y.desc = some sig → argsL.length = sig.parameters.length) (hy1 : y.name = "<init>") (hy : y.cls ≠ "java/lang/invoke/MethodHandle" ∧ y.cls ≠ "java/lang/invoke/VarHandle")
    (hf : rm.frames + 1 ≤ R.frames) (hl : (rest.map fun v => v.category).sum + (maxL + 11) + rm.locals ≤ R.locals) (hc : cells + rm.cells ≤ R.cells) (hs : slots + rm.slots ≤ R.slots)
    (k : ∀ v T' h' L, Stand p l e R s m args below meth c T' (locs ++ L) (cells + rm.cells) (slots + rm.slots) → T'.heap = h' → Q' v h' L → Ends p e below s Q rc rs T' (mkF m (pc + 3) Ls (v.toList ++ rest))) :
    Ends p e below s Q rc rs T (mkF m pc Ls st) := by
  subst has
  obtain ⟨v, _, ⟨T', L', k', n'⟩, -, X', ⟨Lc, hQ, e1, e2, e3⟩, stp⟩ := X.specialBack hx (y := y) hy1 hown (mvT hZ w1) (mvT hZ w2) (mvT hZ w4) hy (backOf (W := (rest.map fun v => v.category).sum) (hM []) hZ w4 w3 hf hl) (g := mkF m pc Ls st) rfl hml (Steps.refl _) (a := a) (argsL := argsL) (rest := rest) hlen hst (by show 2 * 0 + _ ≤ _; omega) hd (fun _ _ => ⟨rfl, eT, hc, hs⟩)
  dsimp only [Pt.U, Pt.locs, Pt.cells, Pt.slots] at X' e1 e2 e3 stp hQ
  subst e1 e2 e3
  exact goS stp (k v T' _ Lc X' rfl hQ)
theorem cVirt {own K : String} {index : Nat} {y z : MethodName} {bytes : ByteArray} {maxL : Nat} {ret : Option FieldType} {rm : Room} {Q' : Option Value → Heap → List Loc → Prop} {pc : Nat} {Ls : Array Slot} {st : List Value}
    (X : Stand p l e R s m args below meth c T locs cells slots) (hx : p.tables.exec = Jvm.exec) (hZ : Z.Warmed39 s.vm) (hown : s.vm.findClass own = some m.cls) (hml : Ls.size = c.maxLocals) (eT : T.heap = h)
    (w1 : (Cond.methodLink own index y).before a0 Z = true) (w2 : (Cond.declares y).before a0 Z = true) (w3 : (Cond.selects K y z).before a0 Z = true) (w4 : (Cond.instanceMethod z).before a0 Z = true) (w5 : (Cond.initialized z.cls).before a0 Z = true) (w6 : (Cond.code z bytes maxL ret).before a0 Z = true) (hnf : NotFace s y)
    (a : Addr) (E : Exa Z h a K) (argsL rest : List Value) {as' : Array Value} (has : (.ref a :: argsL).toArray = as') (hM : Con l z bytes maxL ret rm Z as' h Q') (hd : decode c.code pc = .ok (.invokevirtual index, 3)) (hst : st = argsL.reverse ++ .ref a :: rest)
    (hlen : ∀ sig, parseMethodDescriptor y.desc = some sig → argsL.length = sig.parameters.length) (hy : y.cls ≠ "java/lang/invoke/MethodHandle" ∧ y.cls ≠ "java/lang/invoke/VarHandle")
    (hf : rm.frames + 1 ≤ R.frames) (hl : (rest.map fun v => v.category).sum + (maxL + 11) + rm.locals ≤ R.locals) (hc : cells + rm.cells ≤ R.cells) (hs : slots + rm.slots ≤ R.slots)
    (k : ∀ v T' h' L, Stand p l e R s m args below meth c T' (locs ++ L) (cells + rm.cells) (slots + rm.slots) → T'.heap = h' → Q' v h' L → Ends p e below s Q rc rs T' (mkF m (pc + 3) Ls (v.toList ++ rest))) :
    Ends p e below s Q rc rs T (mkF m pc Ls st) := by
  subst has
  obtain ⟨cq, kq, qa, qb, qc⟩ := isOf hZ eT E
  obtain ⟨v, _, ⟨T', L', k', n'⟩, -, X', ⟨Lc, hQ, e1, e2, e3⟩, stp⟩ := X.virtualBack hx (y := y) (z := z) hown (mvT hZ w1) (mvT hZ w2) hnf (mvT hZ w3) (mvT hZ w4) hy (backOf (W := (rest.map fun v => v.category).sum) (hM []) hZ w6 w5 hf hl) qa qc (g := mkF m pc Ls st) rfl hml (Steps.refl _) (argsL := argsL) (rest := rest) hlen hst (by show 2 * 0 + _ ≤ _; omega) hd (fun _ _ => ⟨rfl, eT, hc, hs⟩)
  dsimp only [Pt.U, Pt.locs, Pt.cells, Pt.slots] at X' e1 e2 e3 stp hQ
  subst e1 e2 e3
  exact goS stp (k v T' _ Lc X' rfl hQ)
theorem cFace {own K : String} {index count : Nat} {y z : MethodName} {bytes : ByteArray} {maxL : Nat} {ret : Option FieldType} {rm : Room} {Q' : Option Value → Heap → List Loc → Prop} {pc : Nat} {Ls : Array Slot} {st : List Value}
    (X : Stand p l e R s m args below meth c T locs cells slots) (hx : p.tables.exec = Jvm.exec) (hZ : Z.Warmed39 s.vm) (hown : s.vm.findClass own = some m.cls) (hml : Ls.size = c.maxLocals) (eT : T.heap = h)
    (w1 : (Cond.methodLink own index y).before a0 Z = true) (w2 : (Cond.declares y).before a0 Z = true) (wf : (Cond.interfaceMethod y.cls y.cls y.name y.desc).before args s = true) (w3 : (Cond.selects K y z).before a0 Z = true) (w4 : (Cond.instanceMethod z).before a0 Z = true) (wp : (Cond.publicMethod z).before a0 Z = true) (wu : (Cond.unhidden K y.name y.desc).before args s = true) (wc : (Cond.castable K y.cls).before a0 Z = true) (w5 : (Cond.initialized z.cls).before a0 Z = true) (w6 : (Cond.code z bytes maxL ret).before a0 Z = true)
    (a : Addr) (E : Exa Z h a K) (argsL rest : List Value) {as' : Array Value} (has : (.ref a :: argsL).toArray = as') (hM : Con l z bytes maxL ret rm Z as' h Q') (hd : decode c.code pc = .ok (.invokeinterface index count, 5)) (hst : st = argsL.reverse ++ .ref a :: rest)
    (hlen : ∀ sig, parseMethodDescriptor y.desc = some sig → argsL.length = sig.parameters.length) (hy : y.cls ≠ "java/lang/invoke/MethodHandle" ∧ y.cls ≠ "java/lang/invoke/VarHandle")
    (hf : rm.frames + 1 ≤ R.frames) (hl : (rest.map fun v => v.category).sum + (maxL + 11) + rm.locals ≤ R.locals) (hc : cells + rm.cells ≤ R.cells) (hs : slots + rm.slots ≤ R.slots)
    (k : ∀ v T' h' L, Stand p l e R s m args below meth c T' (locs ++ L) (cells + rm.cells) (slots + rm.slots) → T'.heap = h' → Q' v h' L → Ends p e below s Q rc rs T' (mkF m (pc + 5) Ls (v.toList ++ rest))) :
    Ends p e below s Q rc rs T (mkF m pc Ls st) := by
  subst has
  obtain ⟨cq, kq, qa, qb, qc⟩ := isOf hZ eT E
  obtain ⟨v, _, ⟨T', L', k', n'⟩, -, X', ⟨Lc, hQ, e1, e2, e3⟩, stp⟩ := X.interfaceBack hx (xi := y) (y := z) hown (mvT hZ w1) (mvT hZ w2) wf (mvT hZ w3) (mvT hZ w4) (mvT hZ wp) wu (mvT hZ wc) hy (backOf (W := (rest.map fun v => v.category).sum) (hM []) hZ w6 w5 hf hl) qa qb qc (g := mkF m pc Ls st) rfl hml (Steps.refl _) (argsL := argsL) (rest := rest) hlen hst (by show 2 * 0 + _ ≤ _; omega) hd (fun _ _ => ⟨rfl, eT, hc, hs⟩)
  dsimp only [Pt.U, Pt.locs, Pt.cells, Pt.slots] at X' e1 e2 e3 stp hQ
  subst e1 e2 e3
  exact goS stp (k v T' _ Lc X' rfl hQ)
theorem xx (O : Ext Z.heap h) (E : Ext h h') : Ext Z.heap h' := ⟨Nat.le_trans O.1 E.1, fun a c q => E.2 _ _ (O.2 _ _ q)⟩
theorem xk {ws : List Addr} (O : Ext Z.heap h) (K : Keep h h' ws) (q : ∀ x ∈ ws, Z.heap.size ≤ x) : Ext Z.heap h' := (Old.keep ⟨rfl, O⟩ K q).2
theorem xw {a : Addr} {sl : Nat} {v : Value} (O : Ext Z.heap h) (W : Wr h h' a sl v) (q : Z.heap.size ≤ a) : Ext Z.heap h' := (Old.wr ⟨rfl, O⟩ W q).2
theorem ke (E : Ext h h') : Keep h h' [] := (Keep.refl h []).ext E
theorem ek (K : Keep h h' []) : Ext h h' := ⟨K.1, fun a c q => K.2.1 a c q nin0⟩
end Own
theorem pn_0 : plainName "java/lang/StringUTF16" = true := by first | (simp [plainName, overriddenIn]; done) | decide +kernel
theorem d_jdk_52_method_21_0 : decode jdk_52_method_21_code 0 = .ok (.iconst 0, 1) := by decide +kernel
theorem d_jdk_52_method_21_1 : decode jdk_52_method_21_code 1 = .ok (.istore 5, 2) := by decide +kernel
theorem d_jdk_52_method_21_3 : decode jdk_52_method_21_code 3 = .ok (.iload 5, 2) := by decide +kernel
theorem d_jdk_52_method_21_5 : decode jdk_52_method_21_code 5 = .ok (.iload 4, 2) := by decide +kernel
theorem d_jdk_52_method_21_7 : decode jdk_52_method_21_code 7 = .ok (.if_icmp .ge 37, 3) := by decide +kernel
theorem d_jdk_52_method_21_10 : decode jdk_52_method_21_code 10 = .ok (.aload_n 0, 1) := by decide +kernel
theorem d_jdk_52_method_21_11 : decode jdk_52_method_21_code 11 = .ok (.iload_n 1, 1) := by decide +kernel
theorem d_jdk_52_method_21_12 : decode jdk_52_method_21_code 12 = .ok (.caload, 1) := by decide +kernel
theorem d_jdk_52_method_21_13 : decode jdk_52_method_21_code 13 = .ok (.istore 6, 2) := by decide +kernel
theorem d_jdk_52_method_21_15 : decode jdk_52_method_21_code 15 = .ok (.iload 6, 2) := by decide +kernel
theorem d_jdk_52_method_21_17 : decode jdk_52_method_21_code 17 = .ok (.sipush 255, 3) := by decide +kernel
theorem d_jdk_52_method_21_20 : decode jdk_52_method_21_code 20 = .ok (.if_icmp .le 6, 3) := by decide +kernel
theorem d_jdk_52_method_21_26 : decode jdk_52_method_21_code 26 = .ok (.aload_n 2, 1) := by decide +kernel
theorem d_jdk_52_method_21_27 : decode jdk_52_method_21_code 27 = .ok (.iload_n 3, 1) := by decide +kernel
theorem d_jdk_52_method_21_28 : decode jdk_52_method_21_code 28 = .ok (.iload 6, 2) := by decide +kernel
theorem d_jdk_52_method_21_30 : decode jdk_52_method_21_code 30 = .ok (.i2b, 1) := by decide +kernel
theorem d_jdk_52_method_21_31 : decode jdk_52_method_21_code 31 = .ok (.bastore, 1) := by decide +kernel
theorem d_jdk_52_method_21_32 : decode jdk_52_method_21_code 32 = .ok (.iinc 1 1, 3) := by decide +kernel
theorem d_jdk_52_method_21_35 : decode jdk_52_method_21_code 35 = .ok (.iinc 3 1, 3) := by decide +kernel
theorem d_jdk_52_method_21_38 : decode jdk_52_method_21_code 38 = .ok (.iinc 5 1, 3) := by decide +kernel
theorem d_jdk_52_method_21_41 : decode jdk_52_method_21_code 41 = .ok (.goto (-38), 3) := by decide +kernel
theorem d_jdk_52_method_21_44 : decode jdk_52_method_21_code 44 = .ok (.iload 4, 2) := by decide +kernel
theorem d_jdk_52_method_21_46 : decode jdk_52_method_21_code 46 = .ok (.ireturn, 1) := by decide +kernel
theorem d_jdk_52_method_16_0 : decode jdk_52_method_16_code 0 = .ok (.iload_n 2, 1) := by decide +kernel
theorem d_jdk_52_method_16_1 : decode jdk_52_method_16_code 1 = .ok (.newarray .byte, 2) := by decide +kernel
theorem d_jdk_52_method_16_3 : decode jdk_52_method_16_code 3 = .ok (.astore_n 3, 1) := by decide +kernel
theorem d_jdk_52_method_16_4 : decode jdk_52_method_16_code 4 = .ok (.aload_n 0, 1) := by decide +kernel
theorem d_jdk_52_method_16_5 : decode jdk_52_method_16_code 5 = .ok (.iload_n 1, 1) := by decide +kernel
theorem d_jdk_52_method_16_6 : decode jdk_52_method_16_code 6 = .ok (.aload_n 3, 1) := by decide +kernel
theorem d_jdk_52_method_16_7 : decode jdk_52_method_16_code 7 = .ok (.iconst 0, 1) := by decide +kernel
theorem d_jdk_52_method_16_8 : decode jdk_52_method_16_code 8 = .ok (.iload_n 2, 1) := by decide +kernel
theorem d_jdk_52_method_16_9 : decode jdk_52_method_16_code 9 = .ok (.invokestatic 115, 3) := by decide +kernel
theorem pd_1 : parseMethodDescriptor "([CI[BII)I" = some ⟨[(.array .char), .int, (.array .byte), .int, .int], some .int⟩ := by decide +kernel
theorem d_jdk_52_method_16_12 : decode jdk_52_method_16_code 12 = .ok (.istore 4, 2) := by decide +kernel
theorem d_jdk_52_method_16_14 : decode jdk_52_method_16_code 14 = .ok (.iload 4, 2) := by decide +kernel
theorem d_jdk_52_method_16_16 : decode jdk_52_method_16_code 16 = .ok (.iload_n 2, 1) := by decide +kernel
theorem d_jdk_52_method_16_17 : decode jdk_52_method_16_code 17 = .ok (.if_icmp .eq 40, 3) := by decide +kernel
theorem d_jdk_52_method_16_57 : decode jdk_52_method_16_code 57 = .ok (.aload_n 3, 1) := by decide +kernel
theorem d_jdk_52_method_16_58 : decode jdk_52_method_16_code 58 = .ok (.areturn, 1) := by decide +kernel
theorem d_jdk_52_method_15_0 : decode jdk_52_method_15_code 0 = .ok (.iload_n 1, 1) := by decide +kernel
theorem d_jdk_52_method_15_1 : decode jdk_52_method_15_code 1 = .ok (.aload_n 0, 1) := by decide +kernel
theorem d_jdk_52_method_15_2 : decode jdk_52_method_15_code 2 = .ok (.arraylength, 1) := by decide +kernel
theorem d_jdk_52_method_15_3 : decode jdk_52_method_15_code 3 = .ok (.isub, 1) := by decide +kernel
theorem d_jdk_52_method_15_4 : decode jdk_52_method_15_code 4 = .ok (.bipush 31, 2) := by decide +kernel
theorem d_jdk_52_method_15_6 : decode jdk_52_method_15_code 6 = .ok (.iushr, 1) := by decide +kernel
theorem d_jdk_52_method_15_7 : decode jdk_52_method_15_code 7 = .ok (.i2b, 1) := by decide +kernel
theorem d_jdk_52_method_15_8 : decode jdk_52_method_15_code 8 = .ok (.ireturn, 1) := by decide +kernel
theorem pn_2 : plainName "java/lang/String" = true := by first | (simp [plainName, overriddenIn]; done) | decide +kernel
theorem d_jdk_42_method_149_0 : decode jdk_42_method_149_code 0 = .ok (.aload_n 0, 1) := by decide +kernel
theorem d_jdk_42_method_149_1 : decode jdk_42_method_149_code 1 = .ok (.invokespecial 1, 3) := by decide +kernel
theorem d_jdk_42_method_149_4 : decode jdk_42_method_149_code 4 = .ok (.iload_n 3, 1) := by decide +kernel
theorem d_jdk_42_method_149_5 : decode jdk_42_method_149_code 5 = .ok (.ifCond .ne 22, 3) := by decide +kernel
theorem d_jdk_42_method_149_27 : decode jdk_42_method_149_code 27 = .ok (.getstatic 38, 3) := by decide +kernel
theorem d_jdk_42_method_149_30 : decode jdk_42_method_149_code 30 = .ok (.ifCond .eq 28, 3) := by decide +kernel
theorem d_jdk_42_method_149_33 : decode jdk_42_method_149_code 33 = .ok (.aload_n 1, 1) := by decide +kernel
theorem d_jdk_42_method_149_34 : decode jdk_42_method_149_code 34 = .ok (.iload_n 2, 1) := by decide +kernel
theorem d_jdk_42_method_149_35 : decode jdk_42_method_149_code 35 = .ok (.iload_n 3, 1) := by decide +kernel
theorem d_jdk_42_method_149_36 : decode jdk_42_method_149_code 36 = .ok (.invokestatic 177, 3) := by decide +kernel
theorem pd_3 : parseMethodDescriptor "([CII)[B" = some ⟨[(.array .char), .int, .int], some (.array .byte)⟩ := by decide +kernel
theorem d_jdk_42_method_149_39 : decode jdk_42_method_149_code 39 = .ok (.astore 5, 2) := by decide +kernel
theorem d_jdk_42_method_149_41 : decode jdk_42_method_149_code 41 = .ok (.aload_n 0, 1) := by decide +kernel
theorem d_jdk_42_method_149_42 : decode jdk_42_method_149_code 42 = .ok (.aload 5, 2) := by decide +kernel
theorem d_jdk_42_method_149_44 : decode jdk_42_method_149_code 44 = .ok (.iload_n 3, 1) := by decide +kernel
theorem d_jdk_42_method_149_45 : decode jdk_42_method_149_code 45 = .ok (.invokestatic 47, 3) := by decide +kernel
theorem pd_4 : parseMethodDescriptor "([BI)B" = some ⟨[(.array .byte), .int], some .byte⟩ := by decide +kernel
theorem d_jdk_42_method_149_48 : decode jdk_42_method_149_code 48 = .ok (.putfield 15, 3) := by decide +kernel
theorem d_jdk_42_method_149_51 : decode jdk_42_method_149_code 51 = .ok (.aload_n 0, 1) := by decide +kernel
theorem d_jdk_42_method_149_52 : decode jdk_42_method_149_code 52 = .ok (.aload 5, 2) := by decide +kernel
theorem d_jdk_42_method_149_54 : decode jdk_42_method_149_code 54 = .ok (.putfield 9, 3) := by decide +kernel
theorem d_jdk_42_method_149_57 : decode jdk_42_method_149_code 57 = .ok (.return_, 1) := by decide +kernel
theorem d_jdk_42_method_3_0 : decode jdk_42_method_3_code 0 = .ok (.aload_n 0, 1) := by decide +kernel
theorem d_jdk_42_method_3_1 : decode jdk_42_method_3_code 1 = .ok (.aload_n 1, 1) := by decide +kernel
theorem d_jdk_42_method_3_2 : decode jdk_42_method_3_code 2 = .ok (.iconst 0, 1) := by decide +kernel
theorem d_jdk_42_method_3_3 : decode jdk_42_method_3_code 3 = .ok (.aload_n 1, 1) := by decide +kernel
theorem d_jdk_42_method_3_4 : decode jdk_42_method_3_code 4 = .ok (.arraylength, 1) := by decide +kernel
theorem d_jdk_42_method_3_5 : decode jdk_42_method_3_code 5 = .ok (.aconst_null, 1) := by decide +kernel
theorem d_jdk_42_method_3_6 : decode jdk_42_method_3_code 6 = .ok (.invokespecial 27, 3) := by decide +kernel
theorem pd_5 : parseMethodDescriptor "([CIILjava/lang/Void;)V" = some ⟨[(.array .char), .int, .int, (.object "java/lang/Void")], none⟩ := by decide +kernel
theorem d_jdk_42_method_3_9 : decode jdk_42_method_3_code 9 = .ok (.return_, 1) := by decide +kernel
theorem pn_6 : plainName "java/lang/StringLatin1" = true := by first | (simp [plainName, overriddenIn]; done) | decide +kernel
theorem d_jdk_43_method_3_0 : decode jdk_43_method_3_code 0 = .ok (.iload_n 0, 1) := by decide +kernel
theorem d_jdk_43_method_3_1 : decode jdk_43_method_3_code 1 = .ok (.sipush 255, 3) := by decide +kernel
theorem d_jdk_43_method_3_4 : decode jdk_43_method_3_code 4 = .ok (.if_icmp .gt 7, 3) := by decide +kernel
theorem d_jdk_43_method_3_7 : decode jdk_43_method_3_code 7 = .ok (.iconst 1, 1) := by decide +kernel
theorem d_jdk_43_method_3_8 : decode jdk_43_method_3_code 8 = .ok (.goto 4, 3) := by decide +kernel
theorem d_jdk_43_method_3_12 : decode jdk_43_method_3_code 12 = .ok (.ireturn, 1) := by decide +kernel
theorem d_jdk_43_method_46_0 : decode jdk_43_method_46_code 0 = .ok (.iconst 1, 1) := by decide +kernel
theorem d_jdk_43_method_46_1 : decode jdk_43_method_46_code 1 = .ok (.newarray .byte, 2) := by decide +kernel
theorem d_jdk_43_method_46_3 : decode jdk_43_method_46_code 3 = .ok (.dup, 1) := by decide +kernel
theorem d_jdk_43_method_46_4 : decode jdk_43_method_46_code 4 = .ok (.iconst 0, 1) := by decide +kernel
theorem d_jdk_43_method_46_5 : decode jdk_43_method_46_code 5 = .ok (.iload_n 0, 1) := by decide +kernel
theorem d_jdk_43_method_46_6 : decode jdk_43_method_46_code 6 = .ok (.i2b, 1) := by decide +kernel
theorem d_jdk_43_method_46_7 : decode jdk_43_method_46_code 7 = .ok (.bastore, 1) := by decide +kernel
theorem d_jdk_43_method_46_8 : decode jdk_43_method_46_code 8 = .ok (.areturn, 1) := by decide +kernel
theorem d_jdk_42_method_151_0 : decode jdk_42_method_151_code 0 = .ok (.aload_n 0, 1) := by decide +kernel
theorem d_jdk_42_method_151_1 : decode jdk_42_method_151_code 1 = .ok (.invokespecial 1, 3) := by decide +kernel
theorem d_jdk_42_method_151_4 : decode jdk_42_method_151_code 4 = .ok (.aload_n 0, 1) := by decide +kernel
theorem d_jdk_42_method_151_5 : decode jdk_42_method_151_code 5 = .ok (.aload_n 1, 1) := by decide +kernel
theorem d_jdk_42_method_151_6 : decode jdk_42_method_151_code 6 = .ok (.putfield 9, 3) := by decide +kernel
theorem d_jdk_42_method_151_9 : decode jdk_42_method_151_code 9 = .ok (.aload_n 0, 1) := by decide +kernel
theorem d_jdk_42_method_151_10 : decode jdk_42_method_151_code 10 = .ok (.iload_n 2, 1) := by decide +kernel
theorem d_jdk_42_method_151_11 : decode jdk_42_method_151_code 11 = .ok (.putfield 15, 3) := by decide +kernel
theorem d_jdk_42_method_151_14 : decode jdk_42_method_151_code 14 = .ok (.return_, 1) := by decide +kernel
theorem d_jdk_42_method_139_0 : decode jdk_42_method_139_code 0 = .ok (.getstatic 38, 3) := by decide +kernel
theorem d_jdk_42_method_139_3 : decode jdk_42_method_139_code 3 = .ok (.ifCond .eq 23, 3) := by decide +kernel
theorem d_jdk_42_method_139_6 : decode jdk_42_method_139_code 6 = .ok (.iload_n 0, 1) := by decide +kernel
theorem d_jdk_42_method_139_7 : decode jdk_42_method_139_code 7 = .ok (.invokestatic 1015, 3) := by decide +kernel
theorem pd_7 : parseMethodDescriptor "(C)Z" = some ⟨[.char], some .boolean⟩ := by decide +kernel
theorem d_jdk_42_method_139_10 : decode jdk_42_method_139_code 10 = .ok (.ifCond .eq 16, 3) := by decide +kernel
theorem d_jdk_42_method_139_13 : decode jdk_42_method_139_code 13 = .ok (.new 10, 3) := by decide +kernel
theorem d_jdk_42_method_139_16 : decode jdk_42_method_139_code 16 = .ok (.dup, 1) := by decide +kernel
theorem d_jdk_42_method_139_17 : decode jdk_42_method_139_code 17 = .ok (.iload_n 0, 1) := by decide +kernel
theorem d_jdk_42_method_139_18 : decode jdk_42_method_139_code 18 = .ok (.invokestatic 1018, 3) := by decide +kernel
theorem pd_8 : parseMethodDescriptor "(C)[B" = some ⟨[.char], some (.array .byte)⟩ := by decide +kernel
theorem d_jdk_42_method_139_21 : decode jdk_42_method_139_code 21 = .ok (.iconst 0, 1) := by decide +kernel
theorem d_jdk_42_method_139_22 : decode jdk_42_method_139_code 22 = .ok (.invokespecial 209, 3) := by decide +kernel
theorem pd_9 : parseMethodDescriptor "([BB)V" = some ⟨[(.array .byte), .byte], none⟩ := by decide +kernel
theorem d_jdk_42_method_139_25 : decode jdk_42_method_139_code 25 = .ok (.areturn, 1) := by decide +kernel
theorem pn_10 : plainName "java/lang/Number" = true := by first | (simp [plainName, overriddenIn]; done) | decide +kernel
theorem d_jdk_18_method_1_0 : decode jdk_18_method_1_code 0 = .ok (.aload_n 0, 1) := by decide +kernel
theorem d_jdk_18_method_1_1 : decode jdk_18_method_1_code 1 = .ok (.invokespecial 1, 3) := by decide +kernel
theorem d_jdk_18_method_1_4 : decode jdk_18_method_1_code 4 = .ok (.return_, 1) := by decide +kernel
theorem pn_11 : plainName "java/lang/Integer" = true := by first | (simp [plainName, overriddenIn]; done) | decide +kernel
theorem d_jdk_33_method_23_0 : decode jdk_33_method_23_code 0 = .ok (.aload_n 0, 1) := by decide +kernel
theorem d_jdk_33_method_23_1 : decode jdk_33_method_23_code 1 = .ok (.invokespecial 202, 3) := by decide +kernel
theorem pd_12 : parseMethodDescriptor "()V" = some ⟨[], none⟩ := by decide +kernel
theorem d_jdk_33_method_23_4 : decode jdk_33_method_23_code 4 = .ok (.aload_n 0, 1) := by decide +kernel
theorem d_jdk_33_method_23_5 : decode jdk_33_method_23_code 5 = .ok (.iload_n 1, 1) := by decide +kernel
theorem d_jdk_33_method_23_6 : decode jdk_33_method_23_code 6 = .ok (.putfield 205, 3) := by decide +kernel
theorem d_jdk_33_method_23_9 : decode jdk_33_method_23_code 9 = .ok (.return_, 1) := by decide +kernel
theorem d_jdk_33_method_22_0 : decode jdk_33_method_22_code 0 = .ok (.iload_n 0, 1) := by decide +kernel
theorem d_jdk_33_method_22_1 : decode jdk_33_method_22_code 1 = .ok (.bipush (-128), 2) := by decide +kernel
theorem d_jdk_33_method_22_3 : decode jdk_33_method_22_code 3 = .ok (.if_icmp .lt 20, 3) := by decide +kernel
theorem d_jdk_33_method_22_23 : decode jdk_33_method_22_code 23 = .ok (.new 1, 3) := by decide +kernel
theorem d_jdk_33_method_22_26 : decode jdk_33_method_22_code 26 = .ok (.dup, 1) := by decide +kernel
theorem d_jdk_33_method_22_27 : decode jdk_33_method_22_code 27 = .ok (.iload_n 0, 1) := by decide +kernel
theorem d_jdk_33_method_22_28 : decode jdk_33_method_22_code 28 = .ok (.invokespecial 199, 3) := by decide +kernel
theorem pd_13 : parseMethodDescriptor "(I)V" = some ⟨[.int], none⟩ := by decide +kernel
theorem d_jdk_33_method_22_31 : decode jdk_33_method_22_code 31 = .ok (.areturn, 1) := by decide +kernel
theorem d_jdk_33_method_22_6 : decode jdk_33_method_22_code 6 = .ok (.iload_n 0, 1) := by decide +kernel
theorem d_jdk_33_method_22_7 : decode jdk_33_method_22_code 7 = .ok (.getstatic 191, 3) := by decide +kernel
theorem d_jdk_33_method_22_10 : decode jdk_33_method_22_code 10 = .ok (.if_icmp .gt 13, 3) := by decide +kernel
theorem d_jdk_33_method_22_13 : decode jdk_33_method_22_code 13 = .ok (.getstatic 195, 3) := by decide +kernel
theorem d_jdk_33_method_22_16 : decode jdk_33_method_22_code 16 = .ok (.iload_n 0, 1) := by decide +kernel
theorem d_jdk_33_method_22_17 : decode jdk_33_method_22_code 17 = .ok (.sipush 128, 3) := by decide +kernel
theorem d_jdk_33_method_22_20 : decode jdk_33_method_22_code 20 = .ok (.iadd, 1) := by decide +kernel
theorem d_jdk_33_method_22_21 : decode jdk_33_method_22_code 21 = .ok (.aaload, 1) := by decide +kernel
theorem d_jdk_33_method_22_22 : decode jdk_33_method_22_code 22 = .ok (.areturn, 1) := by decide +kernel
theorem pn_14 : plainName "java/util/Objects" = true := by first | (simp [plainName, overriddenIn]; done) | decide +kernel
theorem d_jdk_31_method_10_0 : decode jdk_31_method_10_code 0 = .ok (.aload_n 0, 1) := by decide +kernel
theorem d_jdk_31_method_10_1 : decode jdk_31_method_10_code 1 = .ok (.ifnonnull 11, 3) := by decide +kernel
theorem d_jdk_31_method_10_12 : decode jdk_31_method_10_code 12 = .ok (.aload_n 0, 1) := by decide +kernel
theorem d_jdk_31_method_10_13 : decode jdk_31_method_10_code 13 = .ok (.areturn, 1) := by decide +kernel
theorem pn_15 : plainName "com/example/durable_state/durablestate/io/MarkedValue" = true := by first | (simp [plainName, overriddenIn]; done) | decide +kernel
theorem d_prog_10_method_1_0 : decode prog_10_method_1_code 0 = .ok (.aload_n 0, 1) := by decide +kernel
theorem d_prog_10_method_1_1 : decode prog_10_method_1_code 1 = .ok (.invokespecial 1, 3) := by decide +kernel
theorem d_prog_10_method_1_4 : decode prog_10_method_1_code 4 = .ok (.aload_n 0, 1) := by decide +kernel
theorem d_prog_10_method_1_5 : decode prog_10_method_1_code 5 = .ok (.aload_n 1, 1) := by decide +kernel
theorem d_prog_10_method_1_6 : decode prog_10_method_1_code 6 = .ok (.invokestatic 7, 3) := by decide +kernel
theorem pd_16 : parseMethodDescriptor "(Ljava/lang/Object;)Ljava/lang/Object;" = some ⟨[(.object "java/lang/Object")], some (.object "java/lang/Object")⟩ := by decide +kernel
theorem d_prog_10_method_1_9 : decode prog_10_method_1_code 9 = .ok (.checkcast 13, 3) := by decide +kernel
theorem d_prog_10_method_1_12 : decode prog_10_method_1_code 12 = .ok (.putfield 15, 3) := by decide +kernel
theorem d_prog_10_method_1_15 : decode prog_10_method_1_code 15 = .ok (.aload_n 0, 1) := by decide +kernel
theorem d_prog_10_method_1_16 : decode prog_10_method_1_code 16 = .ok (.aload_n 2, 1) := by decide +kernel
theorem d_prog_10_method_1_17 : decode prog_10_method_1_code 17 = .ok (.putfield 21, 3) := by decide +kernel
theorem d_prog_10_method_1_20 : decode prog_10_method_1_code 20 = .ok (.return_, 1) := by decide +kernel
theorem d_prog_10_method_2_0 : decode prog_10_method_2_code 0 = .ok (.aload_n 0, 1) := by decide +kernel
theorem d_prog_10_method_2_1 : decode prog_10_method_2_code 1 = .ok (.instanceof 16, 3) := by decide +kernel
theorem d_prog_10_method_2_4 : decode prog_10_method_2_code 4 = .ok (.ifCond .eq 13, 3) := by decide +kernel
theorem d_prog_10_method_2_17 : decode prog_10_method_2_code 17 = .ok (.aload_n 0, 1) := by decide +kernel
theorem d_prog_10_method_2_18 : decode prog_10_method_2_code 18 = .ok (.areturn, 1) := by decide +kernel
theorem d_prog_10_method_2_7 : decode prog_10_method_2_code 7 = .ok (.aload_n 0, 1) := by decide +kernel
theorem d_prog_10_method_2_8 : decode prog_10_method_2_code 8 = .ok (.checkcast 16, 3) := by decide +kernel
theorem d_prog_10_method_2_11 : decode prog_10_method_2_code 11 = .ok (.getfield 21, 3) := by decide +kernel
theorem d_prog_10_method_2_14 : decode prog_10_method_2_code 14 = .ok (.goto 4, 3) := by decide +kernel
theorem pn_17 : plainName "com/example/durable_state/durablestate/io/MarkedValueUnmarkedPinLaw" = true := by first | (simp [plainName, overriddenIn]; done) | decide +kernel
theorem pd_18 : parseMethodDescriptor "([C)V" = some ⟨[(.array .char)], none⟩ := by decide +kernel
theorem pd_19 : parseMethodDescriptor "(C)Ljava/lang/String;" = some ⟨[.char], some (.object "java/lang/String")⟩ := by decide +kernel
theorem pd_20 : parseMethodDescriptor "(I)Ljava/lang/Integer;" = some ⟨[.int], some (.object "java/lang/Integer")⟩ := by decide +kernel
theorem pd_21 : parseMethodDescriptor "(Ljava/lang/String;Ljava/lang/Object;)V" = some ⟨[(.object "java/lang/String"), (.object "java/lang/Object")], none⟩ := by decide +kernel
theorem own_nsroot {Z : State} {a0 : Array Value} {O K : String} {n : Nat} (w : (Jvm.Cond.noSuperclass O).before a0 Z = true) (wk : (Jvm.Cond.instantiable K n).before a0 Z = true) (hn : O ≠ K) : NS Z O K := by
  obtain ⟨c, k, h1, h2, h3, -, -⟩ := Cond.noSuperclass_spec w
  obtain ⟨t, kt, g1, -⟩ := Cond.instantiable_spec wk
  have ne := ids_ne h1 g1 hn
  refine ⟨c, t, h1, g1, fun fuel => ?_⟩
  cases fuel with
  | zero => rfl
  | succ f => simp [Vm.isSubclassAux, ne, h2, h3]
theorem own_nsno {Z : State} {a0 : Array Value} {C S K : String} {n : Nat} (w : (Jvm.Cond.superclass C S).before a0 Z = true) (wk : (Jvm.Cond.instantiable K n).before a0 Z = true) (ns : NS Z C K) (hn : C ≠ K) : ∃ c t, Z.vm.findClass C = some c ∧ Z.vm.findClass K = some t ∧ Z.vm.assignable c t = false := by
  obtain ⟨c, t, h0, g0, n3⟩ := ns
  obtain ⟨p, k, kp, h1, h2, h3, h4, h5, -, h7⟩ := Cond.superclass_spec h0 w
  obtain ⟨t', kt, g1, g2, g3, g4, -⟩ := Cond.instantiable_spec wk
  cases g0.symm.trans g1
  have g5 : kt.isInterface = false := by
    cases hq : kt.isInterface with
    | false => rfl
    | true => rw [hq] at g4; simp at g4
  have ne := ids_ne h0 g0 hn
  refine ⟨c, t, h0, g0, ?_⟩
  show Z.vm.assignableAux (255 + 1) c t = false
  simp [Vm.assignableAux, ne, h2, g2, h5, g3, g5, Vm.isSubclass, n3]
theorem own_len {args : Array Value} {Z : State} {t : Term} {a : Addr} {cl : Cell} {ty : FieldType} {z : Int32} (ht : t.eval args Z none [] Z = some (.ref a)) (A : Arr Z Z.heap a cl ty) (e : (Term.length t).eval args Z none [] Z = some (.int z)) : cl.slots.size < 2 ^ 31 ∧ cl.slots.size.toInt32 = z := by
  have hA := A.fin (Vm.Alike.refl _)
  by_cases hn : cl.slots.size < 2 ^ 31
  · exact ⟨hn, Value.int.inj (Option.some.inj ((len_f ht hA hn).symm.trans e))⟩
  · exfalso
    simp [Term.eval, ht, hA, hn] at e
theorem own_idx {args : Array Value} {Z : State} {j : Int32} (hj : ¬ j < 0) : (Term.sub (.index 0) (.int 128)).eval args Z none [j.toNatClampNeg] Z = some (.int (j - 128)) := by
  have e := idx_at (args := args) (first := Z) (s := Z) (o := none) hj
  simp only [Term.eval] at e ⊢
  simp [e, (back32 hj).1]
theorem own_nb (x : Int32) : nar .byte x.toInt8.toInt32 = x.toInt8.toInt32 := by simp [nar]
theorem own_ch (x : Int32) : ¬ (255 : Int32) < (x &&& 255).toUInt32.toUInt16.toUInt32.toInt32 ∧ ¬ (x &&& 255).toUInt32.toUInt16.toUInt32.toInt32 < 0 := by
  have e1 : (255 : Int32).toInt = 255 := by decide
  have e2 : (0 : Int32).toInt = 0 := by decide
  have q := c_and x 255 (by decide)
  rw [i2c_mask]
  simp only [Int32.lt_iff_toInt_lt, e1, e2] at *
  omega
theorem own_nc (x : Int32) : nar .char x.toUInt32.toUInt16.toUInt32.toInt32 = x.toUInt32.toUInt16.toUInt32.toInt32 := by simp only [nar, UInt32.toUInt32_toInt32, UInt16.toUInt16_toUInt32]
theorem own_and3 {x k : Int32} (hk : k = x &&& 3) (h0 : ¬ k = 0) (h1 : ¬ k = 1) (h2 : ¬ k = 2) : k = 3 := by
  have q := c_and x 3 (by decide)
  rw [← hk] at q
  have e0 : (0 : Int32).toInt = 0 := by decide
  have e1 : (1 : Int32).toInt = 1 := by decide
  have e2 : (2 : Int32).toInt = 2 := by decide
  have e3 : (3 : Int32).toInt = 3 := by decide
  rw [← Int32.toInt_inj, e0] at h0
  rw [← Int32.toInt_inj, e1] at h1
  rw [← Int32.toInt_inj, e2] at h2
  rw [e3] at q
  rw [← Int32.toInt_inj, e3]
  omega
set_option maxRecDepth 65536 in
set_option maxHeartbeats 40000000 in
theorem rm_cmp5_2 {l : Launch} {Z : State} {a0 : Array Value} (hw : ∀ d ∈ tables_1, d.before a0 Z = true) (aC aB : Addr) (kC kB : ClassId) (y0 y1 : Int32)  (h0 : Heap) (O0 : Ext Z.heap h0) (f0 : Z.heap.size ≤ aB) (ne0 : aC ≠ aB) (VC : Arv Z h0 aC kC .char (2 : Int32) [(.int y0), (.int y1)] (.int 0)) (VB : Arv Z h0 aB kB .byte (2 : Int32) [(.int (0 : Int32)), (.int (0 : Int32))] (.int 0)) (l0 : ¬ (255 : Int32) < y0) (l1 : ¬ (255 : Int32) < y1) :
    Con l (⟨"java/lang/StringUTF16", "compress", "([CI[BII)I"⟩ : MethodName) jdk_52_method_21_code 7 (some .int) ({ frames := 0, cells := 0, slots := 0, locals := 0 } : Room) Z #[(.ref aC), (.int (0 : Int32)), (.ref aB), (.int (0 : Int32)), (.int (2 : Int32))] h0 (fun v h L => v = some (.int (2 : Int32)) ∧ Fr Z.heap.size L ∧ Keep h0 h [aB] ∧ Arv Z h aB kB .byte (2 : Int32) [(.int y0.toInt8.toInt32), (.int y1.toInt8.toInt32)] (.int 0)) := by
  refine Con.of (plainFor_of_name pn_0) (Ls := #[.val (.ref aC), .val (.int (0 : Int32)), .val (.ref aB), .val (.int (0 : Int32)), .val (.int (2 : Int32)), .unset, .unset]) (fun m => by first | rfl | (simp [entryFrame, mkF, argsToLocals, Value.category]; done)) ?_
  intro p e s m below meth c T0 X0 hx hZ hby hml hown hnm hret hlk e0
  refine go (fun _ => XT.iconstV X0.here hx rfl (0 : Int32) (hb hby d_jdk_52_method_21_0) (by decide)) ?_
  show Ends p e below s _ _ _ T0 (mkF m 1 #[.val (.ref aC), .val (.int (0 : Int32)), .val (.ref aB), .val (.int (0 : Int32)), .val (.int (2 : Int32)), .unset, .unset] [(.int (0 : Int32))])
  refine go (fun _ => XS.istore X0.here hx rfl (hb hby d_jdk_52_method_21_1) rfl (l' := #[.val (.ref aC), .val (.int (0 : Int32)), .val (.ref aB), .val (.int (0 : Int32)), .val (.int (2 : Int32)), .val (.int (0 : Int32)), .unset]) rfl) ?_
  show Ends p e below s _ _ _ T0 (mkF m 3 #[.val (.ref aC), .val (.int (0 : Int32)), .val (.ref aB), .val (.int (0 : Int32)), .val (.int (2 : Int32)), .val (.int (0 : Int32)), .unset] [])
  refine go (fun _ => XS.iload X0.here hx rfl (hb hby d_jdk_52_method_21_3) rfl) ?_
  show Ends p e below s _ _ _ T0 (mkF m 5 #[.val (.ref aC), .val (.int (0 : Int32)), .val (.ref aB), .val (.int (0 : Int32)), .val (.int (2 : Int32)), .val (.int (0 : Int32)), .unset] [(.int (0 : Int32))])
  refine go (fun _ => XS.iload X0.here hx rfl (hb hby d_jdk_52_method_21_5) rfl) ?_
  show Ends p e below s _ _ _ T0 (mkF m 7 #[.val (.ref aC), .val (.int (0 : Int32)), .val (.ref aB), .val (.int (0 : Int32)), .val (.int (2 : Int32)), .val (.int (0 : Int32)), .unset] [(.int (2 : Int32)), (.int (0 : Int32))])
  refine go (fun _ => XS.icmpNo X0.here hx rfl (hb hby d_jdk_52_method_21_7) rfl (XT.ii_ge_f ((by decide) : (0 : Int32) < (2 : Int32)))) ?_
  show Ends p e below s _ _ _ T0 (mkF m 10 #[.val (.ref aC), .val (.int (0 : Int32)), .val (.ref aB), .val (.int (0 : Int32)), .val (.int (2 : Int32)), .val (.int (0 : Int32)), .unset] [])
  refine go (fun _ => XS.aloadN X0.here hx rfl (hb hby d_jdk_52_method_21_10) rfl rfl) ?_
  show Ends p e below s _ _ _ T0 (mkF m 11 #[.val (.ref aC), .val (.int (0 : Int32)), .val (.ref aB), .val (.int (0 : Int32)), .val (.int (2 : Int32)), .val (.int (0 : Int32)), .unset] [(.ref aC)])
  refine go (fun _ => XS.iloadN X0.here hx rfl (hb hby d_jdk_52_method_21_11) rfl) ?_
  show Ends p e below s _ _ _ T0 (mkF m 12 #[.val (.ref aC), .val (.int (0 : Int32)), .val (.ref aB), .val (.int (0 : Int32)), .val (.int (2 : Int32)), .val (.int (0 : Int32)), .unset] [(.int (0 : Int32)), (.ref aC)])
  obtain ⟨cl1, A1, -, S1, M1, H1, -⟩ := id VC
  have B1 := inb_of S1 (j := (0 : Int32)) (by decide)
  refine go (fun _ => X0.caload hx (j := (0 : Int32)) (v := (.int y0)) (by rw [e0]; exact A1.1) (State.isArrayOf_alike hZ.alike A1.2.1) A1.2.2 B1 (H1.at B1 rfl) (g := (mkF m 12 #[.val (.ref aC), .val (.int (0 : Int32)), .val (.ref aB), .val (.int (0 : Int32)), .val (.int (2 : Int32)), .val (.int (0 : Int32)), .unset] [(.int (0 : Int32)), (.ref aC)])) rfl rfl (hb hby d_jdk_52_method_21_12) _) ?_
  show Ends p e below s _ _ _ T0 (mkF m 13 #[.val (.ref aC), .val (.int (0 : Int32)), .val (.ref aB), .val (.int (0 : Int32)), .val (.int (2 : Int32)), .val (.int (0 : Int32)), .unset] [(.int y0)])
  refine go (fun _ => XS.istore X0.here hx rfl (hb hby d_jdk_52_method_21_13) rfl (l' := #[.val (.ref aC), .val (.int (0 : Int32)), .val (.ref aB), .val (.int (0 : Int32)), .val (.int (2 : Int32)), .val (.int (0 : Int32)), .val (.int y0)]) rfl) ?_
  show Ends p e below s _ _ _ T0 (mkF m 15 #[.val (.ref aC), .val (.int (0 : Int32)), .val (.ref aB), .val (.int (0 : Int32)), .val (.int (2 : Int32)), .val (.int (0 : Int32)), .val (.int y0)] [])
  refine go (fun _ => XS.iload X0.here hx rfl (hb hby d_jdk_52_method_21_15) rfl) ?_
  show Ends p e below s _ _ _ T0 (mkF m 17 #[.val (.ref aC), .val (.int (0 : Int32)), .val (.ref aB), .val (.int (0 : Int32)), .val (.int (2 : Int32)), .val (.int (0 : Int32)), .val (.int y0)] [(.int y0)])
  refine go (fun _ => XT.sipushV X0.here hx rfl (255 : Int32) (hb hby d_jdk_52_method_21_17) (by decide)) ?_
  show Ends p e below s _ _ _ T0 (mkF m 20 #[.val (.ref aC), .val (.int (0 : Int32)), .val (.ref aB), .val (.int (0 : Int32)), .val (.int (2 : Int32)), .val (.int (0 : Int32)), .val (.int y0)] [(.int (255 : Int32)), (.int y0)])
  refine go (fun _ => XS.icmpYes X0.here hx rfl (pc0 := 20) (pc' := 26) rfl (hb hby d_jdk_52_method_21_20) rfl (XT.ii_le_t l0) (by decide) (by decide)) ?_
  show Ends p e below s _ _ _ T0 (mkF m 26 #[.val (.ref aC), .val (.int (0 : Int32)), .val (.ref aB), .val (.int (0 : Int32)), .val (.int (2 : Int32)), .val (.int (0 : Int32)), .val (.int y0)] [])
  refine go (fun _ => XS.aloadN X0.here hx rfl (hb hby d_jdk_52_method_21_26) rfl rfl) ?_
  show Ends p e below s _ _ _ T0 (mkF m 27 #[.val (.ref aC), .val (.int (0 : Int32)), .val (.ref aB), .val (.int (0 : Int32)), .val (.int (2 : Int32)), .val (.int (0 : Int32)), .val (.int y0)] [(.ref aB)])
  refine go (fun _ => XS.iloadN X0.here hx rfl (hb hby d_jdk_52_method_21_27) rfl) ?_
  show Ends p e below s _ _ _ T0 (mkF m 28 #[.val (.ref aC), .val (.int (0 : Int32)), .val (.ref aB), .val (.int (0 : Int32)), .val (.int (2 : Int32)), .val (.int (0 : Int32)), .val (.int y0)] [(.int (0 : Int32)), (.ref aB)])
  refine go (fun _ => XS.iload X0.here hx rfl (hb hby d_jdk_52_method_21_28) rfl) ?_
  show Ends p e below s _ _ _ T0 (mkF m 30 #[.val (.ref aC), .val (.int (0 : Int32)), .val (.ref aB), .val (.int (0 : Int32)), .val (.int (2 : Int32)), .val (.int (0 : Int32)), .val (.int y0)] [(.int y0), (.int (0 : Int32)), (.ref aB)])
  refine go (fun _ => XT.i2b X0.here hx rfl (hb hby d_jdk_52_method_21_30) rfl) ?_
  show Ends p e below s _ _ _ T0 (mkF m 31 #[.val (.ref aC), .val (.int (0 : Int32)), .val (.ref aB), .val (.int (0 : Int32)), .val (.int (2 : Int32)), .val (.int (0 : Int32)), .val (.int y0)] [(.int y0.toInt8.toInt32), (.int (0 : Int32)), (.ref aB)])
  obtain ⟨cl2, A2, q2, S2, M2, H2, G2⟩ := id VB
  obtain ⟨T2, h2, X2, e2, W2, s2⟩ := stB X0 hx hZ e0 A2 (j := (0 : Int32)) (inb_of S2 (by decide)) (g := (mkF m 31 #[.val (.ref aC), .val (.int (0 : Int32)), .val (.ref aB), .val (.int (0 : Int32)), .val (.int (2 : Int32)), .val (.int (0 : Int32)), .val (.int y0)] [(.int y0.toInt8.toInt32), (.int (0 : Int32)), (.ref aB)])) rfl rfl (hb hby d_jdk_52_method_21_31)
  have r2 : nar .byte y0.toInt8.toInt32 = y0.toInt8.toInt32 := own_nb _
  rw [r2] at W2
  have N2 := Fr.snoc X2 (Fr.nil _) f0
  have O3 : Ext Z.heap h2 := xw O0 W2 f0
  have V2 : Arv Z h2 aB kB .byte (2 : Int32) [(.int y0.toInt8.toInt32), (.int (0 : Int32))] (.int 0) := Arv.set A2 q2 S2 M2 H2 G2 (by first | rfl | exact fits_nar_byte y0.toInt8.toInt32 | (rw [← r2]; exact fits_nar_byte y0.toInt8.toInt32)) W2 0 (by decide) (Nat.le_of_ble_eq_true rfl)
  refine go s2 ?_
  show Ends p e below s _ _ _ T2 (mkF m 32 #[.val (.ref aC), .val (.int (0 : Int32)), .val (.ref aB), .val (.int (0 : Int32)), .val (.int (2 : Int32)), .val (.int (0 : Int32)), .val (.int y0)] [])
  refine go (fun _ => XT.iincV X2.here hx rfl (1 : Int32) (hb hby d_jdk_52_method_21_32) (by decide) rfl (l' := #[.val (.ref aC), .val (.int (1 : Int32)), .val (.ref aB), .val (.int (0 : Int32)), .val (.int (2 : Int32)), .val (.int (0 : Int32)), .val (.int y0)]) rfl) ?_
  show Ends p e below s _ _ _ T2 (mkF m 35 #[.val (.ref aC), .val (.int (1 : Int32)), .val (.ref aB), .val (.int (0 : Int32)), .val (.int (2 : Int32)), .val (.int (0 : Int32)), .val (.int y0)] [])
  refine go (fun _ => XT.iincV X2.here hx rfl (1 : Int32) (hb hby d_jdk_52_method_21_35) (by decide) rfl (l' := #[.val (.ref aC), .val (.int (1 : Int32)), .val (.ref aB), .val (.int (1 : Int32)), .val (.int (2 : Int32)), .val (.int (0 : Int32)), .val (.int y0)]) rfl) ?_
  show Ends p e below s _ _ _ T2 (mkF m 38 #[.val (.ref aC), .val (.int (1 : Int32)), .val (.ref aB), .val (.int (1 : Int32)), .val (.int (2 : Int32)), .val (.int (0 : Int32)), .val (.int y0)] [])
  refine go (fun _ => XT.iincV X2.here hx rfl (1 : Int32) (hb hby d_jdk_52_method_21_38) (by decide) rfl (l' := #[.val (.ref aC), .val (.int (1 : Int32)), .val (.ref aB), .val (.int (1 : Int32)), .val (.int (2 : Int32)), .val (.int (1 : Int32)), .val (.int y0)]) rfl) ?_
  show Ends p e below s _ _ _ T2 (mkF m 41 #[.val (.ref aC), .val (.int (1 : Int32)), .val (.ref aB), .val (.int (1 : Int32)), .val (.int (2 : Int32)), .val (.int (1 : Int32)), .val (.int y0)] [])
  refine go (fun _ => XS.goto X2.here hx rfl (pc0 := 41) (pc' := 3) rfl (hb hby d_jdk_52_method_21_41) (by decide) (by decide)) ?_
  show Ends p e below s _ _ _ T2 (mkF m 3 #[.val (.ref aC), .val (.int (1 : Int32)), .val (.ref aB), .val (.int (1 : Int32)), .val (.int (2 : Int32)), .val (.int (1 : Int32)), .val (.int y0)] [])
  refine go (fun _ => XS.iload X2.here hx rfl (hb hby d_jdk_52_method_21_3) rfl) ?_
  show Ends p e below s _ _ _ T2 (mkF m 5 #[.val (.ref aC), .val (.int (1 : Int32)), .val (.ref aB), .val (.int (1 : Int32)), .val (.int (2 : Int32)), .val (.int (1 : Int32)), .val (.int y0)] [(.int (1 : Int32))])
  refine go (fun _ => XS.iload X2.here hx rfl (hb hby d_jdk_52_method_21_5) rfl) ?_
  show Ends p e below s _ _ _ T2 (mkF m 7 #[.val (.ref aC), .val (.int (1 : Int32)), .val (.ref aB), .val (.int (1 : Int32)), .val (.int (2 : Int32)), .val (.int (1 : Int32)), .val (.int y0)] [(.int (2 : Int32)), (.int (1 : Int32))])
  refine go (fun _ => XS.icmpNo X2.here hx rfl (hb hby d_jdk_52_method_21_7) rfl (XT.ii_ge_f ((by decide) : (1 : Int32) < (2 : Int32)))) ?_
  show Ends p e below s _ _ _ T2 (mkF m 10 #[.val (.ref aC), .val (.int (1 : Int32)), .val (.ref aB), .val (.int (1 : Int32)), .val (.int (2 : Int32)), .val (.int (1 : Int32)), .val (.int y0)] [])
  refine go (fun _ => XS.aloadN X2.here hx rfl (hb hby d_jdk_52_method_21_10) rfl rfl) ?_
  show Ends p e below s _ _ _ T2 (mkF m 11 #[.val (.ref aC), .val (.int (1 : Int32)), .val (.ref aB), .val (.int (1 : Int32)), .val (.int (2 : Int32)), .val (.int (1 : Int32)), .val (.int y0)] [(.ref aC)])
  refine go (fun _ => XS.iloadN X2.here hx rfl (hb hby d_jdk_52_method_21_11) rfl) ?_
  show Ends p e below s _ _ _ T2 (mkF m 12 #[.val (.ref aC), .val (.int (1 : Int32)), .val (.ref aB), .val (.int (1 : Int32)), .val (.int (2 : Int32)), .val (.int (1 : Int32)), .val (.int y0)] [(.int (1 : Int32)), (.ref aC)])
  have F4 := (Arv.other VC W2 ne0)
  obtain ⟨cl5, A5, -, S5, M5, H5, -⟩ := id F4
  have B5 := inb_of S5 (j := (1 : Int32)) (by decide)
  refine go (fun _ => X2.caload hx (j := (1 : Int32)) (v := (.int y1)) (by rw [e2]; exact A5.1) (State.isArrayOf_alike hZ.alike A5.2.1) A5.2.2 B5 (H5.at B5 rfl) (g := (mkF m 12 #[.val (.ref aC), .val (.int (1 : Int32)), .val (.ref aB), .val (.int (1 : Int32)), .val (.int (2 : Int32)), .val (.int (1 : Int32)), .val (.int y0)] [(.int (1 : Int32)), (.ref aC)])) rfl rfl (hb hby d_jdk_52_method_21_12) _) ?_
  show Ends p e below s _ _ _ T2 (mkF m 13 #[.val (.ref aC), .val (.int (1 : Int32)), .val (.ref aB), .val (.int (1 : Int32)), .val (.int (2 : Int32)), .val (.int (1 : Int32)), .val (.int y0)] [(.int y1)])
  refine go (fun _ => XS.istore X2.here hx rfl (hb hby d_jdk_52_method_21_13) rfl (l' := #[.val (.ref aC), .val (.int (1 : Int32)), .val (.ref aB), .val (.int (1 : Int32)), .val (.int (2 : Int32)), .val (.int (1 : Int32)), .val (.int y1)]) rfl) ?_
  show Ends p e below s _ _ _ T2 (mkF m 15 #[.val (.ref aC), .val (.int (1 : Int32)), .val (.ref aB), .val (.int (1 : Int32)), .val (.int (2 : Int32)), .val (.int (1 : Int32)), .val (.int y1)] [])
  refine go (fun _ => XS.iload X2.here hx rfl (hb hby d_jdk_52_method_21_15) rfl) ?_
  show Ends p e below s _ _ _ T2 (mkF m 17 #[.val (.ref aC), .val (.int (1 : Int32)), .val (.ref aB), .val (.int (1 : Int32)), .val (.int (2 : Int32)), .val (.int (1 : Int32)), .val (.int y1)] [(.int y1)])
  refine go (fun _ => XT.sipushV X2.here hx rfl (255 : Int32) (hb hby d_jdk_52_method_21_17) (by decide)) ?_
  show Ends p e below s _ _ _ T2 (mkF m 20 #[.val (.ref aC), .val (.int (1 : Int32)), .val (.ref aB), .val (.int (1 : Int32)), .val (.int (2 : Int32)), .val (.int (1 : Int32)), .val (.int y1)] [(.int (255 : Int32)), (.int y1)])
  refine go (fun _ => XS.icmpYes X2.here hx rfl (pc0 := 20) (pc' := 26) rfl (hb hby d_jdk_52_method_21_20) rfl (XT.ii_le_t l1) (by decide) (by decide)) ?_
  show Ends p e below s _ _ _ T2 (mkF m 26 #[.val (.ref aC), .val (.int (1 : Int32)), .val (.ref aB), .val (.int (1 : Int32)), .val (.int (2 : Int32)), .val (.int (1 : Int32)), .val (.int y1)] [])
  refine go (fun _ => XS.aloadN X2.here hx rfl (hb hby d_jdk_52_method_21_26) rfl rfl) ?_
  show Ends p e below s _ _ _ T2 (mkF m 27 #[.val (.ref aC), .val (.int (1 : Int32)), .val (.ref aB), .val (.int (1 : Int32)), .val (.int (2 : Int32)), .val (.int (1 : Int32)), .val (.int y1)] [(.ref aB)])
  refine go (fun _ => XS.iloadN X2.here hx rfl (hb hby d_jdk_52_method_21_27) rfl) ?_
  show Ends p e below s _ _ _ T2 (mkF m 28 #[.val (.ref aC), .val (.int (1 : Int32)), .val (.ref aB), .val (.int (1 : Int32)), .val (.int (2 : Int32)), .val (.int (1 : Int32)), .val (.int y1)] [(.int (1 : Int32)), (.ref aB)])
  refine go (fun _ => XS.iload X2.here hx rfl (hb hby d_jdk_52_method_21_28) rfl) ?_
  show Ends p e below s _ _ _ T2 (mkF m 30 #[.val (.ref aC), .val (.int (1 : Int32)), .val (.ref aB), .val (.int (1 : Int32)), .val (.int (2 : Int32)), .val (.int (1 : Int32)), .val (.int y1)] [(.int y1), (.int (1 : Int32)), (.ref aB)])
  refine go (fun _ => XT.i2b X2.here hx rfl (hb hby d_jdk_52_method_21_30) rfl) ?_
  show Ends p e below s _ _ _ T2 (mkF m 31 #[.val (.ref aC), .val (.int (1 : Int32)), .val (.ref aB), .val (.int (1 : Int32)), .val (.int (2 : Int32)), .val (.int (1 : Int32)), .val (.int y1)] [(.int y1.toInt8.toInt32), (.int (1 : Int32)), (.ref aB)])
  obtain ⟨cl6, A6, q6, S6, M6, H6, G6⟩ := id V2
  obtain ⟨T6, h6, X6, e6, W6, s6⟩ := stB X2 hx hZ e2 A6 (j := (1 : Int32)) (inb_of S6 (by decide)) (g := (mkF m 31 #[.val (.ref aC), .val (.int (1 : Int32)), .val (.ref aB), .val (.int (1 : Int32)), .val (.int (2 : Int32)), .val (.int (1 : Int32)), .val (.int y1)] [(.int y1.toInt8.toInt32), (.int (1 : Int32)), (.ref aB)])) rfl rfl (hb hby d_jdk_52_method_21_31)
  have r6 : nar .byte y1.toInt8.toInt32 = y1.toInt8.toInt32 := own_nb _
  rw [r6] at W6
  have N6 := Fr.snoc X6 N2 f0
  have O7 : Ext Z.heap h6 := xw O3 W6 f0
  have V6 : Arv Z h6 aB kB .byte (2 : Int32) [(.int y0.toInt8.toInt32), (.int y1.toInt8.toInt32)] (.int 0) := Arv.set A6 q6 S6 M6 H6 G6 (by first | rfl | exact fits_nar_byte y1.toInt8.toInt32 | (rw [← r6]; exact fits_nar_byte y1.toInt8.toInt32)) W6 1 (by decide) (Nat.le_of_ble_eq_true rfl)
  refine go s6 ?_
  show Ends p e below s _ _ _ T6 (mkF m 32 #[.val (.ref aC), .val (.int (1 : Int32)), .val (.ref aB), .val (.int (1 : Int32)), .val (.int (2 : Int32)), .val (.int (1 : Int32)), .val (.int y1)] [])
  refine go (fun _ => XT.iincV X6.here hx rfl (1 : Int32) (hb hby d_jdk_52_method_21_32) (by decide) rfl (l' := #[.val (.ref aC), .val (.int (2 : Int32)), .val (.ref aB), .val (.int (1 : Int32)), .val (.int (2 : Int32)), .val (.int (1 : Int32)), .val (.int y1)]) rfl) ?_
  show Ends p e below s _ _ _ T6 (mkF m 35 #[.val (.ref aC), .val (.int (2 : Int32)), .val (.ref aB), .val (.int (1 : Int32)), .val (.int (2 : Int32)), .val (.int (1 : Int32)), .val (.int y1)] [])
  refine go (fun _ => XT.iincV X6.here hx rfl (1 : Int32) (hb hby d_jdk_52_method_21_35) (by decide) rfl (l' := #[.val (.ref aC), .val (.int (2 : Int32)), .val (.ref aB), .val (.int (2 : Int32)), .val (.int (2 : Int32)), .val (.int (1 : Int32)), .val (.int y1)]) rfl) ?_
  show Ends p e below s _ _ _ T6 (mkF m 38 #[.val (.ref aC), .val (.int (2 : Int32)), .val (.ref aB), .val (.int (2 : Int32)), .val (.int (2 : Int32)), .val (.int (1 : Int32)), .val (.int y1)] [])
  refine go (fun _ => XT.iincV X6.here hx rfl (1 : Int32) (hb hby d_jdk_52_method_21_38) (by decide) rfl (l' := #[.val (.ref aC), .val (.int (2 : Int32)), .val (.ref aB), .val (.int (2 : Int32)), .val (.int (2 : Int32)), .val (.int (2 : Int32)), .val (.int y1)]) rfl) ?_
  show Ends p e below s _ _ _ T6 (mkF m 41 #[.val (.ref aC), .val (.int (2 : Int32)), .val (.ref aB), .val (.int (2 : Int32)), .val (.int (2 : Int32)), .val (.int (2 : Int32)), .val (.int y1)] [])
  refine go (fun _ => XS.goto X6.here hx rfl (pc0 := 41) (pc' := 3) rfl (hb hby d_jdk_52_method_21_41) (by decide) (by decide)) ?_
  show Ends p e below s _ _ _ T6 (mkF m 3 #[.val (.ref aC), .val (.int (2 : Int32)), .val (.ref aB), .val (.int (2 : Int32)), .val (.int (2 : Int32)), .val (.int (2 : Int32)), .val (.int y1)] [])
  refine go (fun _ => XS.iload X6.here hx rfl (hb hby d_jdk_52_method_21_3) rfl) ?_
  show Ends p e below s _ _ _ T6 (mkF m 5 #[.val (.ref aC), .val (.int (2 : Int32)), .val (.ref aB), .val (.int (2 : Int32)), .val (.int (2 : Int32)), .val (.int (2 : Int32)), .val (.int y1)] [(.int (2 : Int32))])
  refine go (fun _ => XS.iload X6.here hx rfl (hb hby d_jdk_52_method_21_5) rfl) ?_
  show Ends p e below s _ _ _ T6 (mkF m 7 #[.val (.ref aC), .val (.int (2 : Int32)), .val (.ref aB), .val (.int (2 : Int32)), .val (.int (2 : Int32)), .val (.int (2 : Int32)), .val (.int y1)] [(.int (2 : Int32)), (.int (2 : Int32))])
  refine go (fun _ => XS.icmpYes X6.here hx rfl (pc0 := 7) (pc' := 44) rfl (hb hby d_jdk_52_method_21_7) rfl (XT.ii_ge_t ((by decide) : ¬ ((2 : Int32) < (2 : Int32)))) (by decide) (by decide)) ?_
  show Ends p e below s _ _ _ T6 (mkF m 44 #[.val (.ref aC), .val (.int (2 : Int32)), .val (.ref aB), .val (.int (2 : Int32)), .val (.int (2 : Int32)), .val (.int (2 : Int32)), .val (.int y1)] [])
  refine go (fun _ => XS.iload X6.here hx rfl (hb hby d_jdk_52_method_21_44) rfl) ?_
  show Ends p e below s _ _ _ T6 (mkF m 46 #[.val (.ref aC), .val (.int (2 : Int32)), .val (.ref aB), .val (.int (2 : Int32)), .val (.int (2 : Int32)), .val (.int (2 : Int32)), .val (.int y1)] [(.int (2 : Int32))])
  have K8 : Keep h0 h6 [aB] := (Keep.wr (Keep.wr (Keep.refl _ _) W2 (Or.inl (List.mem_of_getElem? (i := 0) rfl))) W6 (Or.inl (List.mem_of_getElem? (i := 0) rfl)))
  exact endI X6 hx hlk hret (hb hby d_jdk_52_method_21_46) e6 ⟨rfl, N6, K8, V6⟩ (by decide) (by decide)
set_option maxRecDepth 65536 in
set_option maxHeartbeats 40000000 in
theorem rm_cmp3_2 {l : Launch} {Z : State} {a0 : Array Value} (hw : ∀ d ∈ tables_1, d.before a0 Z = true) (aC : Addr) (kC : ClassId) (y0 y1 : Int32)  (h0 : Heap) (O0 : Ext Z.heap h0) (VC : Arv Z h0 aC kC .char (2 : Int32) [(.int y0), (.int y1)] (.int 0)) (l0 : ¬ (255 : Int32) < y0) (l1 : ¬ (255 : Int32) < y1) :
    Con l (⟨"java/lang/StringUTF16", "compress", "([CII)[B"⟩ : MethodName) jdk_52_method_16_code 6 (some (.array .byte)) ({ frames := 1, cells := 1, slots := 2, locals := 18 } : Room) Z #[(.ref aC), (.int (0 : Int32)), (.int (2 : Int32))] h0 (fun v h L => ∃ (b : Addr) (k : ClassId), v = some (.ref b) ∧ Fr Z.heap.size L ∧ Keep h0 h [] ∧ h0.size ≤ b ∧ Arv Z h b k .byte (2 : Int32) [(.int y0.toInt8.toInt32), (.int y1.toInt8.toInt32)] (.int 0)) := by
  refine Con.of (plainFor_of_name pn_0) (Ls := #[.val (.ref aC), .val (.int (0 : Int32)), .val (.int (2 : Int32)), .unset, .unset, .unset]) (fun m => by first | rfl | (simp [entryFrame, mkF, argsToLocals, Value.category]; done)) ?_
  intro p e s m below meth c T0 X0 hx hZ hby hml hown hnm hret hlk e0
  refine go (fun _ => XS.iloadN X0.here hx rfl (hb hby d_jdk_52_method_16_0) rfl) ?_
  show Ends p e below s _ _ _ T0 (mkF m 1 #[.val (.ref aC), .val (.int (0 : Int32)), .val (.int (2 : Int32)), .unset, .unset, .unset] [(.int (2 : Int32))])
  obtain ⟨T9, h9, k9, X9, e9, E9, A9, s9⟩ := newP X0 hx hZ (hw _ (List.mem_of_getElem? (i := 19) rfl)) e0 (g := (mkF m 1 #[.val (.ref aC), .val (.int (0 : Int32)), .val (.int (2 : Int32)), .unset, .unset, .unset] [(.int (2 : Int32))])) rfl (hb hby d_jdk_52_method_16_1) rfl (by decide) (cap := 2) (by decide) (by decide) (by decide) (by decide)
  obtain ⟨a9, g9⟩ : ∃ z : Addr, z = h0.size := ⟨_, rfl⟩
  have n10 : aC ≠ a9 := fun q => absurd (VC.lt) (by rw [q, g9]; exact Nat.lt_irrefl _)
  have f9 : Z.heap.size ≤ a9 := by rw [g9]; exact (O0).1
  have K11 : Keep h0 h0 [] := (Keep.refl _ _)
  have b9 : h0.size ≤ a9 := by rw [g9]; exact (K11).1
  rw [← g9] at A9 s9
  have O12 : Ext Z.heap h9 := xx O0 E9
  have V9 : Arv Z h9 a9 k9 .byte (2 : Int32) [(.int (0 : Int32)), (.int (0 : Int32))] (.int 0) := Arv.pad (Arv.new A9 (by decide)) (pad_rep [] _ 2)
  refine go s9 ?_
  show Ends p e below s _ _ _ T9 (mkF m 3 #[.val (.ref aC), .val (.int (0 : Int32)), .val (.int (2 : Int32)), .unset, .unset, .unset] [(.ref a9)])
  refine go (fun _ => XS.astoreN X9.here hx rfl (hb hby d_jdk_52_method_16_3) rfl rfl (l' := #[.val (.ref aC), .val (.int (0 : Int32)), .val (.int (2 : Int32)), .val (.ref a9), .unset, .unset]) rfl) ?_
  show Ends p e below s _ _ _ T9 (mkF m 4 #[.val (.ref aC), .val (.int (0 : Int32)), .val (.int (2 : Int32)), .val (.ref a9), .unset, .unset] [])
  refine go (fun _ => XS.aloadN X9.here hx rfl (hb hby d_jdk_52_method_16_4) rfl rfl) ?_
  show Ends p e below s _ _ _ T9 (mkF m 5 #[.val (.ref aC), .val (.int (0 : Int32)), .val (.int (2 : Int32)), .val (.ref a9), .unset, .unset] [(.ref aC)])
  refine go (fun _ => XS.iloadN X9.here hx rfl (hb hby d_jdk_52_method_16_5) rfl) ?_
  show Ends p e below s _ _ _ T9 (mkF m 6 #[.val (.ref aC), .val (.int (0 : Int32)), .val (.int (2 : Int32)), .val (.ref a9), .unset, .unset] [(.int (0 : Int32)), (.ref aC)])
  refine go (fun _ => XS.aloadN X9.here hx rfl (hb hby d_jdk_52_method_16_6) rfl rfl) ?_
  show Ends p e below s _ _ _ T9 (mkF m 7 #[.val (.ref aC), .val (.int (0 : Int32)), .val (.int (2 : Int32)), .val (.ref a9), .unset, .unset] [(.ref a9), (.int (0 : Int32)), (.ref aC)])
  refine go (fun _ => XT.iconstV X9.here hx rfl (0 : Int32) (hb hby d_jdk_52_method_16_7) (by decide)) ?_
  show Ends p e below s _ _ _ T9 (mkF m 8 #[.val (.ref aC), .val (.int (0 : Int32)), .val (.int (2 : Int32)), .val (.ref a9), .unset, .unset] [(.int (0 : Int32)), (.ref a9), (.int (0 : Int32)), (.ref aC)])
  refine go (fun _ => XS.iloadN X9.here hx rfl (hb hby d_jdk_52_method_16_8) rfl) ?_
  show Ends p e below s _ _ _ T9 (mkF m 9 #[.val (.ref aC), .val (.int (0 : Int32)), .val (.int (2 : Int32)), .val (.ref a9), .unset, .unset] [(.int (2 : Int32)), (.int (0 : Int32)), (.ref a9), (.int (0 : Int32)), (.ref aC)])
  have F13 := (Arv.ext VC E9)
  refine cStat X9 hx hZ hown (by rw [hml]; rfl) e9 (hw _ (List.mem_of_getElem? (i := 20) rfl)) (hw _ (List.mem_of_getElem? (i := 21) rfl)) (hw _ (List.mem_of_getElem? (i := 17) rfl)) (hw _ (List.mem_of_getElem? (i := 22) rfl)) [(.ref aC), (.int (0 : Int32)), (.ref a9), (.int (0 : Int32)), (.int (2 : Int32))] [] rfl (rm_cmp5_2 hw aC a9 kC k9 y0 y1 _ O12 f9 n10 F13 V9 l0 l1) (hb hby d_jdk_52_method_16_9) rfl (lenOf pd_1 rfl) (by decide) (by decide) (Nat.le_of_ble_eq_true rfl) (by decide) (by decide) ?_
  rintro v14 T14 h14 L14 X14 e14 ⟨rfl, N14, K14, V14⟩
  have N14a := Fr.app (Fr.nil _) N14
  have O15 : Ext Z.heap h14 := xk O12 K14 (allS f9 all0)
  show Ends p e below s _ _ _ T14 (mkF m 12 #[.val (.ref aC), .val (.int (0 : Int32)), .val (.int (2 : Int32)), .val (.ref a9), .unset, .unset] [(.int (2 : Int32))])
  refine go (fun _ => XS.istore X14.here hx rfl (hb hby d_jdk_52_method_16_12) rfl (l' := #[.val (.ref aC), .val (.int (0 : Int32)), .val (.int (2 : Int32)), .val (.ref a9), .val (.int (2 : Int32)), .unset]) rfl) ?_
  show Ends p e below s _ _ _ T14 (mkF m 14 #[.val (.ref aC), .val (.int (0 : Int32)), .val (.int (2 : Int32)), .val (.ref a9), .val (.int (2 : Int32)), .unset] [])
  refine go (fun _ => XS.iload X14.here hx rfl (hb hby d_jdk_52_method_16_14) rfl) ?_
  show Ends p e below s _ _ _ T14 (mkF m 16 #[.val (.ref aC), .val (.int (0 : Int32)), .val (.int (2 : Int32)), .val (.ref a9), .val (.int (2 : Int32)), .unset] [(.int (2 : Int32))])
  refine go (fun _ => XS.iloadN X14.here hx rfl (hb hby d_jdk_52_method_16_16) rfl) ?_
  show Ends p e below s _ _ _ T14 (mkF m 17 #[.val (.ref aC), .val (.int (0 : Int32)), .val (.int (2 : Int32)), .val (.ref a9), .val (.int (2 : Int32)), .unset] [(.int (2 : Int32)), (.int (2 : Int32))])
  refine go (fun _ => XS.icmpYes X14.here hx rfl (pc0 := 17) (pc' := 57) rfl (hb hby d_jdk_52_method_16_17) rfl (XT.ii_eq_t ((by decide) : (2 : Int32) = (2 : Int32))) (by decide) (by decide)) ?_
  show Ends p e below s _ _ _ T14 (mkF m 57 #[.val (.ref aC), .val (.int (0 : Int32)), .val (.int (2 : Int32)), .val (.ref a9), .val (.int (2 : Int32)), .unset] [])
  refine go (fun _ => XS.aloadN X14.here hx rfl (hb hby d_jdk_52_method_16_57) rfl rfl) ?_
  show Ends p e below s _ _ _ T14 (mkF m 58 #[.val (.ref aC), .val (.int (0 : Int32)), .val (.int (2 : Int32)), .val (.ref a9), .val (.int (2 : Int32)), .unset] [(.ref a9)])
  have K16 : Keep h0 h14 [] := (Keep.trans (Keep.ext K11 E9) K14 (allS (Or.inr b9) all0))
  exact endA X14 hx hlk hret rfl rfl (hb hby d_jdk_52_method_16_58) e14 ⟨a9, _, rfl, N14a, K16, b9, V14⟩ (by decide) (by decide)
set_option maxRecDepth 65536 in
set_option maxHeartbeats 40000000 in
theorem rm_coder_2 {l : Launch} {Z : State} {a0 : Array Value} (hw : ∀ d ∈ tables_1, d.before a0 Z = true) (aB : Addr) (kB : ClassId) (vs : List Value) (h0 : Heap) (VB : Arv Z h0 aB kB .byte (2 : Int32) vs (.int 0)) :
    Con l (⟨"java/lang/StringUTF16", "coderFromArrayLen", "([BI)B"⟩ : MethodName) jdk_52_method_15_code 2 (some .byte) ({ frames := 0, cells := 0, slots := 0, locals := 0 } : Room) Z #[(.ref aB), (.int (2 : Int32))] h0 (fun v h L => v = some (.int 0) ∧ Fr Z.heap.size L ∧ h0 = h) := by
  refine Con.of (plainFor_of_name pn_0) (Ls := #[.val (.ref aB), .val (.int (2 : Int32))]) (fun m => by first | rfl | (simp [entryFrame, mkF, argsToLocals, Value.category]; done)) ?_
  intro p e s m below meth c T0 X0 hx hZ hby hml hown hnm hret hlk e0
  refine go (fun _ => XS.iloadN X0.here hx rfl (hb hby d_jdk_52_method_15_0) rfl) ?_
  show Ends p e below s _ _ _ T0 (mkF m 1 #[.val (.ref aB), .val (.int (2 : Int32))] [(.int (2 : Int32))])
  refine go (fun _ => XS.aloadN X0.here hx rfl (hb hby d_jdk_52_method_15_1) rfl rfl) ?_
  show Ends p e below s _ _ _ T0 (mkF m 2 #[.val (.ref aB), .val (.int (2 : Int32))] [(.ref aB), (.int (2 : Int32))])
  obtain ⟨cl17, A17, -, S17, M17, -⟩ := id VB
  refine go (fun _ => X0.arraylength hx (cell := cl17) (by rw [e0]; exact A17.1) (State.isArrayOf_alike hZ.alike A17.2.1) (g := (mkF m 2 #[.val (.ref aB), .val (.int (2 : Int32))] [(.ref aB), (.int (2 : Int32))])) rfl rfl (hb hby d_jdk_52_method_15_2) _) ?_
  rw [len_of S17 M17]
  show Ends p e below s _ _ _ T0 (mkF m 3 #[.val (.ref aB), .val (.int (2 : Int32))] [(.int (2 : Int32)), (.int (2 : Int32))])
  refine go (fun _ => XS.isub X0.here hx rfl (hb hby d_jdk_52_method_15_3) rfl) ?_
  show Ends p e below s _ _ _ T0 (mkF m 4 #[.val (.ref aB), .val (.int (2 : Int32))] [(.int (0 : Int32))])
  refine go (fun _ => XT.bipushV X0.here hx rfl (31 : Int32) (hb hby d_jdk_52_method_15_4) (by decide)) ?_
  show Ends p e below s _ _ _ T0 (mkF m 6 #[.val (.ref aB), .val (.int (2 : Int32))] [(.int (31 : Int32)), (.int (0 : Int32))])
  refine go (fun _ => XT.iushr X0.here hx rfl (hb hby d_jdk_52_method_15_6) rfl) ?_
  show Ends p e below s _ _ _ T0 (mkF m 7 #[.val (.ref aB), .val (.int (2 : Int32))] [(.int (0 : Int32))])
  refine go (fun _ => XT.i2b X0.here hx rfl (hb hby d_jdk_52_method_15_7) rfl) ?_
  show Ends p e below s _ _ _ T0 (mkF m 8 #[.val (.ref aB), .val (.int (2 : Int32))] [(.int (0 : Int32))])
  exact endN X0 hx hlk hret (by simp) (hb hby d_jdk_52_method_15_8) e0 ⟨rfl, (Fr.nil _), rfl⟩ (by decide) (by decide)
set_option maxRecDepth 65536 in
set_option maxHeartbeats 40000000 in
theorem rm_new4_2 {l : Launch} {Z : State} {a0 : Array Value} (hw : ∀ d ∈ tables_1, d.before a0 Z = true) (a aC : Addr) (kC : ClassId) (y0 y1 : Int32)  (h0 : Heap) (O0 : Ext Z.heap h0) (f0 : Z.heap.size ≤ a) (ne0 : a ≠ aC) (E0 : Exa Z h0 a "java/lang/String") (FV : Fld Z h0 a "java/lang/String" "value" "[B" .null) (FC : Fld Z h0 a "java/lang/String" "coder" "B" (.int 0)) (cz : Int32) (SCS : Sta Z Z.heap "java/lang/String" "COMPACT_STRINGS" "Z" (.int cz)) (hcz : ¬ cz = (0 : Int32)) (VC : Arv Z h0 aC kC .char (2 : Int32) [(.int y0), (.int y1)] (.int 0)) (l0 : ¬ (255 : Int32) < y0) (l1 : ¬ (255 : Int32) < y1) :
    Con l (⟨"java/lang/String", "<init>", "([CIILjava/lang/Void;)V"⟩ : MethodName) jdk_42_method_149_code 6 none ({ frames := 2, cells := 1, slots := 2, locals := 35 } : Room) Z #[(.ref a), (.ref aC), (.int (0 : Int32)), (.int (2 : Int32)), .null] h0 (fun v h L => ∃ (b : Addr) (k : ClassId), v = none ∧ Fr Z.heap.size L ∧ Keep h0 h [a] ∧ h0.size ≤ b ∧ Fld Z h a "java/lang/String" "value" "[B" (.ref b) ∧ Fld Z h a "java/lang/String" "coder" "B" (.int 0) ∧ Arv Z h b k .byte (2 : Int32) [(.int y0.toInt8.toInt32), (.int y1.toInt8.toInt32)] (.int 0)) := by
  refine Con.of (plainFor_of_name pn_2) (Ls := #[.val (.ref a), .val (.ref aC), .val (.int (0 : Int32)), .val (.int (2 : Int32)), .val .null, .unset]) (fun m => by first | rfl | (simp [entryFrame, mkF, argsToLocals, Value.category]; done)) ?_
  intro p e s m below meth c T0 X0 hx hZ hby hml hown hnm hret hlk e0
  refine go (fun _ => XS.aloadN X0.here hx rfl (hb hby d_jdk_42_method_149_0) rfl rfl) ?_
  show Ends p e below s _ _ _ T0 (mkF m 1 #[.val (.ref a), .val (.ref aC), .val (.int (0 : Int32)), .val (.int (2 : Int32)), .val .null, .unset] [(.ref a)])
  obtain ⟨T18, X18, e18, s18⟩ := initO X0 hx hZ hown (hw _ (List.mem_of_getElem? (i := 11) rfl)) (hw _ (List.mem_of_getElem? (i := 12) rfl)) (hw _ (List.mem_of_getElem? (i := 13) rfl)) e0 (g := (mkF m 1 #[.val (.ref a), .val (.ref aC), .val (.int (0 : Int32)), .val (.int (2 : Int32)), .val .null, .unset] [(.ref a)])) rfl (by rw [hml]; rfl) rfl (hb hby d_jdk_42_method_149_1) (by decide) (W := 0) (by show 2 * 0 + _ ≤ _; exact Nat.le_of_eq rfl) (by decide)
  refine go s18 ?_
  show Ends p e below s _ _ _ T18 (mkF m 4 #[.val (.ref a), .val (.ref aC), .val (.int (0 : Int32)), .val (.int (2 : Int32)), .val .null, .unset] [])
  refine go (fun _ => XS.iloadN X18.here hx rfl (hb hby d_jdk_42_method_149_4) rfl) ?_
  show Ends p e below s _ _ _ T18 (mkF m 5 #[.val (.ref a), .val (.ref aC), .val (.int (0 : Int32)), .val (.int (2 : Int32)), .val .null, .unset] [(.int (2 : Int32))])
  refine go (fun _ => XS.ifYes X18.here hx rfl (pc0 := 5) (pc' := 27) rfl (hb hby d_jdk_42_method_149_5) rfl (XT.i0_ne_t ((by decide) : ¬ ((2 : Int32) = (0 : Int32)))) (by decide) (by decide)) ?_
  show Ends p e below s _ _ _ T18 (mkF m 27 #[.val (.ref a), .val (.ref aC), .val (.int (0 : Int32)), .val (.int (2 : Int32)), .val .null, .unset] [])
  obtain ⟨T19, X19, e19, s19⟩ := getS2 X18 hx hZ hown (host := "") (Or.inl (hw _ (List.mem_of_getElem? (i := 14) rfl))) Via.refl e18 (Sta.ext O0 SCS) (g := (mkF m 27 #[.val (.ref a), .val (.ref aC), .val (.int (0 : Int32)), .val (.int (2 : Int32)), .val .null, .unset] [])) rfl (hb hby d_jdk_42_method_149_27)
  refine go s19 ?_
  show Ends p e below s _ _ _ T19 (mkF m 30 #[.val (.ref a), .val (.ref aC), .val (.int (0 : Int32)), .val (.int (2 : Int32)), .val .null, .unset] [(.int cz)])
  refine go (fun _ => XS.ifNo X19.here hx rfl (hb hby d_jdk_42_method_149_30) rfl (XT.i0_eq_f hcz)) ?_
  show Ends p e below s _ _ _ T19 (mkF m 33 #[.val (.ref a), .val (.ref aC), .val (.int (0 : Int32)), .val (.int (2 : Int32)), .val .null, .unset] [])
  refine go (fun _ => XS.aloadN X19.here hx rfl (hb hby d_jdk_42_method_149_33) rfl rfl) ?_
  show Ends p e below s _ _ _ T19 (mkF m 34 #[.val (.ref a), .val (.ref aC), .val (.int (0 : Int32)), .val (.int (2 : Int32)), .val .null, .unset] [(.ref aC)])
  refine go (fun _ => XS.iloadN X19.here hx rfl (hb hby d_jdk_42_method_149_34) rfl) ?_
  show Ends p e below s _ _ _ T19 (mkF m 35 #[.val (.ref a), .val (.ref aC), .val (.int (0 : Int32)), .val (.int (2 : Int32)), .val .null, .unset] [(.int (0 : Int32)), (.ref aC)])
  refine go (fun _ => XS.iloadN X19.here hx rfl (hb hby d_jdk_42_method_149_35) rfl) ?_
  show Ends p e below s _ _ _ T19 (mkF m 36 #[.val (.ref a), .val (.ref aC), .val (.int (0 : Int32)), .val (.int (2 : Int32)), .val .null, .unset] [(.int (2 : Int32)), (.int (0 : Int32)), (.ref aC)])
  refine cStat X19 hx hZ hown (by rw [hml]; rfl) e19 (hw _ (List.mem_of_getElem? (i := 15) rfl)) (hw _ (List.mem_of_getElem? (i := 16) rfl)) (hw _ (List.mem_of_getElem? (i := 17) rfl)) (hw _ (List.mem_of_getElem? (i := 18) rfl)) [(.ref aC), (.int (0 : Int32)), (.int (2 : Int32))] [] rfl (rm_cmp3_2 hw aC kC y0 y1 _ O0 VC l0 l1) (hb hby d_jdk_42_method_149_36) rfl (lenOf pd_3 rfl) (by decide) (by decide) (Nat.le_of_ble_eq_true rfl) (by decide) (by decide) ?_
  rintro v20 T20 h20 L20 X20 e20 ⟨b20, k20, rfl, N20, K20, g20, V20⟩
  have N20a := Fr.app (Fr.nil _) N20
  have n21 : a ≠ b20 := Nat.ne_of_lt (Nat.lt_of_lt_of_le (E0.lt) g20)
  have n22 : aC ≠ b20 := Nat.ne_of_lt (Nat.lt_of_lt_of_le (VC.lt) g20)
  have f23 : Z.heap.size ≤ b20 := Nat.le_trans (O0).1 g20
  have K24 : Keep h0 h0 [a] := (Keep.refl _ _)
  have b23 : h0.size ≤ b20 := Nat.le_trans (K24).1 g20
  have O25 : Ext Z.heap h20 := xk O0 K20 all0
  show Ends p e below s _ _ _ T20 (mkF m 39 #[.val (.ref a), .val (.ref aC), .val (.int (0 : Int32)), .val (.int (2 : Int32)), .val .null, .unset] [(.ref b20)])
  refine go (fun _ => XS.astore X20.here hx rfl (hb hby d_jdk_42_method_149_39) rfl rfl (l' := #[.val (.ref a), .val (.ref aC), .val (.int (0 : Int32)), .val (.int (2 : Int32)), .val .null, .val (.ref b20)]) rfl) ?_
  show Ends p e below s _ _ _ T20 (mkF m 41 #[.val (.ref a), .val (.ref aC), .val (.int (0 : Int32)), .val (.int (2 : Int32)), .val .null, .val (.ref b20)] [])
  refine go (fun _ => XS.aloadN X20.here hx rfl (hb hby d_jdk_42_method_149_41) rfl rfl) ?_
  show Ends p e below s _ _ _ T20 (mkF m 42 #[.val (.ref a), .val (.ref aC), .val (.int (0 : Int32)), .val (.int (2 : Int32)), .val .null, .val (.ref b20)] [(.ref a)])
  refine go (fun _ => XS.aload X20.here hx rfl (hb hby d_jdk_42_method_149_42) rfl rfl) ?_
  show Ends p e below s _ _ _ T20 (mkF m 44 #[.val (.ref a), .val (.ref aC), .val (.int (0 : Int32)), .val (.int (2 : Int32)), .val .null, .val (.ref b20)] [(.ref b20), (.ref a)])
  refine go (fun _ => XS.iloadN X20.here hx rfl (hb hby d_jdk_42_method_149_44) rfl) ?_
  show Ends p e below s _ _ _ T20 (mkF m 45 #[.val (.ref a), .val (.ref aC), .val (.int (0 : Int32)), .val (.int (2 : Int32)), .val .null, .val (.ref b20)] [(.int (2 : Int32)), (.ref b20), (.ref a)])
  refine cStat X20 hx hZ hown (by rw [hml]; rfl) e20 (hw _ (List.mem_of_getElem? (i := 23) rfl)) (hw _ (List.mem_of_getElem? (i := 24) rfl)) (hw _ (List.mem_of_getElem? (i := 17) rfl)) (hw _ (List.mem_of_getElem? (i := 25) rfl)) [(.ref b20), (.int (2 : Int32))] [(.ref a)] rfl (rm_coder_2 hw b20 _ _ _ V20) (hb hby d_jdk_42_method_149_45) rfl (lenOf pd_4 rfl) (by decide) (by decide) (Nat.le_of_ble_eq_true rfl) (by decide) (by decide) ?_
  rintro v26 T26 h26 L26 X26 e26 ⟨rfl, N26, rfl⟩
  have N26a := Fr.app N20a N26
  show Ends p e below s _ _ _ T26 (mkF m 48 #[.val (.ref a), .val (.ref aC), .val (.int (0 : Int32)), .val (.int (2 : Int32)), .val .null, .val (.ref b20)] [(.int (0 : Int32)), (.ref a)])
  have F27 := (Exa.keep E0 K20)
  have F28 := (Fld.keep FC K20 nin0)
  obtain ⟨T29, h29, X29, e29, W29, s29⟩ := putF X26 hx hZ hown (host := "") (Or.inl (hw _ (List.mem_of_getElem? (i := 26) rfl))) Via.refl e26 F28 F27 (Or.inr ⟨(hw _ (List.mem_of_getElem? (i := 27) rfl)), rfl, hnm⟩) (hw _ (List.mem_of_getElem? (i := 1) rfl)) (ty := .byte) (by decide) rfl rfl (g := (mkF m 48 #[.val (.ref a), .val (.ref aC), .val (.int (0 : Int32)), .val (.int (2 : Int32)), .val .null, .val (.ref b20)] [(.int (0 : Int32)), (.ref a)])) rfl rfl (hb hby d_jdk_42_method_149_48)
  have N29 := Fr.snoc X29 N26a f0
  have O30 : Ext Z.heap h29 := xw O25 W29 f0
  refine go s29 ?_
  show Ends p e below s _ _ _ T29 (mkF m 51 #[.val (.ref a), .val (.ref aC), .val (.int (0 : Int32)), .val (.int (2 : Int32)), .val .null, .val (.ref b20)] [])
  refine go (fun _ => XS.aloadN X29.here hx rfl (hb hby d_jdk_42_method_149_51) rfl rfl) ?_
  show Ends p e below s _ _ _ T29 (mkF m 52 #[.val (.ref a), .val (.ref aC), .val (.int (0 : Int32)), .val (.int (2 : Int32)), .val .null, .val (.ref b20)] [(.ref a)])
  refine go (fun _ => XS.aload X29.here hx rfl (hb hby d_jdk_42_method_149_52) rfl rfl) ?_
  show Ends p e below s _ _ _ T29 (mkF m 54 #[.val (.ref a), .val (.ref aC), .val (.int (0 : Int32)), .val (.int (2 : Int32)), .val .null, .val (.ref b20)] [(.ref b20), (.ref a)])
  have F31 := (Exa.wr W29 F27)
  have F32 := (Fld.other W29 (Fld.keep FV K20 nin0) (Or.inr (slot_ne (a0 := a0) (Or.inr (hw _ (List.mem_of_getElem? (i := 29) rfl))) (Or.inr (hw _ (List.mem_of_getElem? (i := 27) rfl))) (by decide) (t := (.array .byte)) (t' := .byte) (by decide) (by decide))))
  obtain ⟨T33, h33, X33, e33, W33, s33⟩ := putF X29 hx hZ hown (host := "") (Or.inl (hw _ (List.mem_of_getElem? (i := 28) rfl))) Via.refl e29 F32 F31 (Or.inr ⟨(hw _ (List.mem_of_getElem? (i := 29) rfl)), rfl, hnm⟩) (hw _ (List.mem_of_getElem? (i := 1) rfl)) (ty := (.array .byte)) (by decide) rfl rfl (g := (mkF m 54 #[.val (.ref a), .val (.ref aC), .val (.int (0 : Int32)), .val (.int (2 : Int32)), .val .null, .val (.ref b20)] [(.ref b20), (.ref a)])) rfl rfl (hb hby d_jdk_42_method_149_54)
  have N33 := Fr.snoc X33 N29 f0
  have O34 : Ext Z.heap h33 := xw O30 W33 f0
  refine go s33 ?_
  show Ends p e below s _ _ _ T33 (mkF m 57 #[.val (.ref a), .val (.ref aC), .val (.int (0 : Int32)), .val (.int (2 : Int32)), .val .null, .val (.ref b20)] [])
  have K35 : Keep h0 h33 [a] := (Keep.wr (Keep.wr (Keep.trans K24 K20 all0) W29 (Or.inl (List.mem_of_getElem? (i := 0) rfl))) W33 (Or.inl (List.mem_of_getElem? (i := 0) rfl)))
  have F36 := (Fld.same W33 F32)
  have F37 := (Fld.other W33 (Fld.same W29 F28) (Or.inr (slot_ne (a0 := a0) (Or.inr (hw _ (List.mem_of_getElem? (i := 27) rfl))) (Or.inr (hw _ (List.mem_of_getElem? (i := 29) rfl))) (by decide) (t := .byte) (t' := (.array .byte)) (by decide) (by decide))))
  have F38 := (Arv.other (Arv.other V20 W29 (Ne.symm n21)) W33 (Ne.symm n21))
  exact endV X33 hx hlk hret (hb hby d_jdk_42_method_149_57) e33 ⟨b20, _, rfl, N33, K35, b23, F36, F37, F38⟩ (by decide) (by decide)
set_option maxRecDepth 65536 in
set_option maxHeartbeats 40000000 in
theorem rm_new1_2 {l : Launch} {Z : State} {a0 : Array Value} (hw : ∀ d ∈ tables_1, d.before a0 Z = true) (a aC : Addr) (kC : ClassId) (y0 y1 : Int32)  (h0 : Heap) (O0 : Ext Z.heap h0) (f0 : Z.heap.size ≤ a) (ne0 : a ≠ aC) (E0 : Exa Z h0 a "java/lang/String") (FV : Fld Z h0 a "java/lang/String" "value" "[B" .null) (FC : Fld Z h0 a "java/lang/String" "coder" "B" (.int 0)) (cz : Int32) (SCS : Sta Z Z.heap "java/lang/String" "COMPACT_STRINGS" "Z" (.int cz)) (hcz : ¬ cz = (0 : Int32)) (VC : Arv Z h0 aC kC .char (2 : Int32) [(.int y0), (.int y1)] (.int 0)) (l0 : ¬ (255 : Int32) < y0) (l1 : ¬ (255 : Int32) < y1) :
    Con l (⟨"java/lang/String", "<init>", "([C)V"⟩ : MethodName) jdk_42_method_3_code 2 none ({ frames := 3, cells := 1, slots := 2, locals := 52 } : Room) Z #[(.ref a), (.ref aC)] h0 (fun v h L => ∃ (b : Addr) (k : ClassId), v = none ∧ Fr Z.heap.size L ∧ Keep h0 h [a] ∧ h0.size ≤ b ∧ Fld Z h a "java/lang/String" "value" "[B" (.ref b) ∧ Fld Z h a "java/lang/String" "coder" "B" (.int 0) ∧ Arv Z h b k .byte (2 : Int32) [(.int y0.toInt8.toInt32), (.int y1.toInt8.toInt32)] (.int 0)) := by
  refine Con.of (plainFor_of_name pn_2) (Ls := #[.val (.ref a), .val (.ref aC)]) (fun m => by first | rfl | (simp [entryFrame, mkF, argsToLocals, Value.category]; done)) ?_
  intro p e s m below meth c T0 X0 hx hZ hby hml hown hnm hret hlk e0
  refine go (fun _ => XS.aloadN X0.here hx rfl (hb hby d_jdk_42_method_3_0) rfl rfl) ?_
  show Ends p e below s _ _ _ T0 (mkF m 1 #[.val (.ref a), .val (.ref aC)] [(.ref a)])
  refine go (fun _ => XS.aloadN X0.here hx rfl (hb hby d_jdk_42_method_3_1) rfl rfl) ?_
  show Ends p e below s _ _ _ T0 (mkF m 2 #[.val (.ref a), .val (.ref aC)] [(.ref aC), (.ref a)])
  refine go (fun _ => XT.iconstV X0.here hx rfl (0 : Int32) (hb hby d_jdk_42_method_3_2) (by decide)) ?_
  show Ends p e below s _ _ _ T0 (mkF m 3 #[.val (.ref a), .val (.ref aC)] [(.int (0 : Int32)), (.ref aC), (.ref a)])
  refine go (fun _ => XS.aloadN X0.here hx rfl (hb hby d_jdk_42_method_3_3) rfl rfl) ?_
  show Ends p e below s _ _ _ T0 (mkF m 4 #[.val (.ref a), .val (.ref aC)] [(.ref aC), (.int (0 : Int32)), (.ref aC), (.ref a)])
  obtain ⟨cl39, A39, -, S39, M39, -⟩ := id VC
  refine go (fun _ => X0.arraylength hx (cell := cl39) (by rw [e0]; exact A39.1) (State.isArrayOf_alike hZ.alike A39.2.1) (g := (mkF m 4 #[.val (.ref a), .val (.ref aC)] [(.ref aC), (.int (0 : Int32)), (.ref aC), (.ref a)])) rfl rfl (hb hby d_jdk_42_method_3_4) _) ?_
  rw [len_of S39 M39]
  show Ends p e below s _ _ _ T0 (mkF m 5 #[.val (.ref a), .val (.ref aC)] [(.int (2 : Int32)), (.int (0 : Int32)), (.ref aC), (.ref a)])
  refine go (fun _ => XS.aconstNull X0.here hx rfl (hb hby d_jdk_42_method_3_5)) ?_
  show Ends p e below s _ _ _ T0 (mkF m 6 #[.val (.ref a), .val (.ref aC)] [.null, (.int (2 : Int32)), (.int (0 : Int32)), (.ref aC), (.ref a)])
  refine cInit X0 hx hZ hown (by rw [hml]; rfl) e0 (hw _ (List.mem_of_getElem? (i := 7) rfl)) (hw _ (List.mem_of_getElem? (i := 8) rfl)) (hw _ (List.mem_of_getElem? (i := 2) rfl)) (hw _ (List.mem_of_getElem? (i := 10) rfl)) a [(.ref aC), (.int (0 : Int32)), (.int (2 : Int32)), .null] [] rfl (rm_new4_2 hw a aC kC y0 y1 _ O0 f0 ne0 E0 FV FC cz SCS hcz VC l0 l1) (hb hby d_jdk_42_method_3_6) rfl (lenOf pd_5 rfl) rfl (by decide) (by decide) (Nat.le_of_ble_eq_true rfl) (by decide) (by decide) ?_
  rintro v40 T40 h40 L40 X40 e40 ⟨b40, k40, rfl, N40, K40, g40, Fv40, Fc40, V40⟩
  have N40a := Fr.app (Fr.nil _) N40
  have n41 : a ≠ b40 := Nat.ne_of_lt (Nat.lt_of_lt_of_le (E0.lt) g40)
  have n42 : aC ≠ b40 := Nat.ne_of_lt (Nat.lt_of_lt_of_le (VC.lt) g40)
  have f43 : Z.heap.size ≤ b40 := Nat.le_trans (O0).1 g40
  have K44 : Keep h0 h0 [a] := (Keep.refl _ _)
  have b43 : h0.size ≤ b40 := Nat.le_trans (K44).1 g40
  have O45 : Ext Z.heap h40 := xk O0 K40 (allS f0 all0)
  show Ends p e below s _ _ _ T40 (mkF m 9 #[.val (.ref a), .val (.ref aC)] [])
  have K46 : Keep h0 h40 [a] := (Keep.trans K44 K40 (allS (Or.inl (List.mem_of_getElem? (i := 0) rfl)) all0))
  exact endV X40 hx hlk hret (hb hby d_jdk_42_method_3_9) e40 ⟨b40, _, rfl, N40a, K46, b43, Fv40, Fc40, V40⟩ (by decide) (by decide)
set_option maxRecDepth 65536 in
set_option maxHeartbeats 40000000 in
theorem rm_can {l : Launch} {Z : State} {a0 : Array Value} (hw : ∀ d ∈ tables_1, d.before a0 Z = true) (y : Int32) (h0 : Heap) (l0 : ¬ (255 : Int32) < y) :
    Con l (⟨"java/lang/StringLatin1", "canEncode", "(C)Z"⟩ : MethodName) jdk_43_method_3_code 1 (some .boolean) ({ frames := 0, cells := 0, slots := 0, locals := 0 } : Room) Z #[(.int y)] h0 (fun v h L => v = some (.int 1) ∧ Fr Z.heap.size L ∧ h0 = h) := by
  refine Con.of (plainFor_of_name pn_6) (Ls := #[.val (.int y)]) (fun m => by first | rfl | (simp [entryFrame, mkF, argsToLocals, Value.category]; done)) ?_
  intro p e s m below meth c T0 X0 hx hZ hby hml hown hnm hret hlk e0
  refine go (fun _ => XS.iloadN X0.here hx rfl (hb hby d_jdk_43_method_3_0) rfl) ?_
  show Ends p e below s _ _ _ T0 (mkF m 1 #[.val (.int y)] [(.int y)])
  refine go (fun _ => XT.sipushV X0.here hx rfl (255 : Int32) (hb hby d_jdk_43_method_3_1) (by decide)) ?_
  show Ends p e below s _ _ _ T0 (mkF m 4 #[.val (.int y)] [(.int (255 : Int32)), (.int y)])
  refine go (fun _ => XS.icmpNo X0.here hx rfl (hb hby d_jdk_43_method_3_4) rfl (XT.ii_gt_f l0)) ?_
  show Ends p e below s _ _ _ T0 (mkF m 7 #[.val (.int y)] [])
  refine go (fun _ => XT.iconstV X0.here hx rfl (1 : Int32) (hb hby d_jdk_43_method_3_7) (by decide)) ?_
  show Ends p e below s _ _ _ T0 (mkF m 8 #[.val (.int y)] [(.int (1 : Int32))])
  refine go (fun _ => XS.goto X0.here hx rfl (pc0 := 8) (pc' := 12) rfl (hb hby d_jdk_43_method_3_8) (by decide) (by decide)) ?_
  show Ends p e below s _ _ _ T0 (mkF m 12 #[.val (.int y)] [(.int (1 : Int32))])
  exact endN X0 hx hlk hret (by simp) (hb hby d_jdk_43_method_3_12) e0 ⟨rfl, (Fr.nil _), rfl⟩ (by decide) (by decide)
set_option maxRecDepth 65536 in
set_option maxHeartbeats 40000000 in
theorem rm_tobytes {l : Launch} {Z : State} {a0 : Array Value} (hw : ∀ d ∈ tables_1, d.before a0 Z = true) (y : Int32) (h0 : Heap) (O0 : Ext Z.heap h0) :
    Con l (⟨"java/lang/StringLatin1", "toBytes", "(C)[B"⟩ : MethodName) jdk_43_method_46_code 1 (some (.array .byte)) ({ frames := 0, cells := 1, slots := 1, locals := 0 } : Room) Z #[(.int y)] h0 (fun v h L => ∃ (b : Addr) (k : ClassId), v = some (.ref b) ∧ Fr Z.heap.size L ∧ Keep h0 h [] ∧ h0.size ≤ b ∧ Arv Z h b k .byte (1 : Int32) [(.int y.toInt8.toInt32)] (.int 0)) := by
  refine Con.of (plainFor_of_name pn_6) (Ls := #[.val (.int y)]) (fun m => by first | rfl | (simp [entryFrame, mkF, argsToLocals, Value.category]; done)) ?_
  intro p e s m below meth c T0 X0 hx hZ hby hml hown hnm hret hlk e0
  refine go (fun _ => XT.iconstV X0.here hx rfl (1 : Int32) (hb hby d_jdk_43_method_46_0) (by decide)) ?_
  show Ends p e below s _ _ _ T0 (mkF m 1 #[.val (.int y)] [(.int (1 : Int32))])
  obtain ⟨T47, h47, k47, X47, e47, E47, A47, s47⟩ := newP X0 hx hZ (hw _ (List.mem_of_getElem? (i := 19) rfl)) e0 (g := (mkF m 1 #[.val (.int y)] [(.int (1 : Int32))])) rfl (hb hby d_jdk_43_method_46_1) rfl (by decide) (cap := 1) (by decide) (by decide) (by decide) (by decide)
  obtain ⟨a47, g47⟩ : ∃ z : Addr, z = h0.size := ⟨_, rfl⟩
  have f47 : Z.heap.size ≤ a47 := by rw [g47]; exact (O0).1
  have K48 : Keep h0 h0 [] := (Keep.refl _ _)
  have b47 : h0.size ≤ a47 := by rw [g47]; exact (K48).1
  rw [← g47] at A47 s47
  have O49 : Ext Z.heap h47 := xx O0 E47
  have V47 : Arv Z h47 a47 k47 .byte (1 : Int32) [(.int (0 : Int32))] (.int 0) := Arv.pad (Arv.new A47 (by decide)) (pad_rep [] _ 1)
  refine go s47 ?_
  show Ends p e below s _ _ _ T47 (mkF m 3 #[.val (.int y)] [(.ref a47)])
  refine go (fun _ => XS.dup X47.here hx rfl (hb hby d_jdk_43_method_46_3) rfl rfl) ?_
  show Ends p e below s _ _ _ T47 (mkF m 4 #[.val (.int y)] [(.ref a47), (.ref a47)])
  refine go (fun _ => XT.iconstV X47.here hx rfl (0 : Int32) (hb hby d_jdk_43_method_46_4) (by decide)) ?_
  show Ends p e below s _ _ _ T47 (mkF m 5 #[.val (.int y)] [(.int (0 : Int32)), (.ref a47), (.ref a47)])
  refine go (fun _ => XS.iloadN X47.here hx rfl (hb hby d_jdk_43_method_46_5) rfl) ?_
  show Ends p e below s _ _ _ T47 (mkF m 6 #[.val (.int y)] [(.int y), (.int (0 : Int32)), (.ref a47), (.ref a47)])
  refine go (fun _ => XT.i2b X47.here hx rfl (hb hby d_jdk_43_method_46_6) rfl) ?_
  show Ends p e below s _ _ _ T47 (mkF m 7 #[.val (.int y)] [(.int y.toInt8.toInt32), (.int (0 : Int32)), (.ref a47), (.ref a47)])
  obtain ⟨cl50, A50, q50, S50, M50, H50, G50⟩ := id V47
  obtain ⟨T50, h50, X50, e50, W50, s50⟩ := stB X47 hx hZ e47 A50 (j := (0 : Int32)) (inb_of S50 (by decide)) (g := (mkF m 7 #[.val (.int y)] [(.int y.toInt8.toInt32), (.int (0 : Int32)), (.ref a47), (.ref a47)])) rfl rfl (hb hby d_jdk_43_method_46_7)
  have r50 : nar .byte y.toInt8.toInt32 = y.toInt8.toInt32 := own_nb _
  rw [r50] at W50
  have N50 := Fr.snoc X50 (Fr.nil _) f47
  have O51 : Ext Z.heap h50 := xw O49 W50 f47
  have V50 : Arv Z h50 a47 k47 .byte (1 : Int32) [(.int y.toInt8.toInt32)] (.int 0) := Arv.set A50 q50 S50 M50 H50 G50 (by first | rfl | exact fits_nar_byte y.toInt8.toInt32 | (rw [← r50]; exact fits_nar_byte y.toInt8.toInt32)) W50 0 (by decide) (Nat.le_of_ble_eq_true rfl)
  refine go s50 ?_
  show Ends p e below s _ _ _ T50 (mkF m 8 #[.val (.int y)] [(.ref a47)])
  have K52 : Keep h0 h50 [] := (Keep.wr (Keep.ext K48 E47) W50 (Or.inr b47))
  exact endA X50 hx hlk hret rfl rfl (hb hby d_jdk_43_method_46_8) e50 ⟨a47, _, rfl, N50, K52, b47, V50⟩ (by decide) (by decide)
set_option maxRecDepth 65536 in
set_option maxHeartbeats 40000000 in
theorem rm_strbb {l : Launch} {Z : State} {a0 : Array Value} (hw : ∀ d ∈ tables_1, d.before a0 Z = true) (a : Addr) (x : Addr) (h0 : Heap) (O0 : Ext Z.heap h0) (f0 : Z.heap.size ≤ a) (E0 : Exa Z h0 a "java/lang/String") (F_value : Fld Z h0 a "java/lang/String" "value" "[B" .null) (F_coder : Fld Z h0 a "java/lang/String" "coder" "B" (.int (0 : Int32)))   :
    Con l (⟨"java/lang/String", "<init>", "([BB)V"⟩ : MethodName) jdk_42_method_151_code 3 none ({ frames := 1, cells := 0, slots := 0, locals := 12 } : Room) Z #[(.ref a), (.ref x), (.int (0 : Int32))] h0 (fun v h L => v = none ∧ Fr Z.heap.size L ∧ Keep h0 h [a] ∧ Fld Z h a "java/lang/String" "value" "[B" (.ref x) ∧ Fld Z h a "java/lang/String" "coder" "B" (.int (0 : Int32))) := by
  refine Con.of (plainFor_of_name pn_2) (Ls := #[.val (.ref a), .val (.ref x), .val (.int (0 : Int32))]) (fun m => by first | rfl | (simp [entryFrame, mkF, argsToLocals, Value.category]; done)) ?_
  intro p e s m below meth c T0 X0 hx hZ hby hml hown hnm hret hlk e0
  refine go (fun _ => XS.aloadN X0.here hx rfl (hb hby d_jdk_42_method_151_0) rfl rfl) ?_
  show Ends p e below s _ _ _ T0 (mkF m 1 #[.val (.ref a), .val (.ref x), .val (.int (0 : Int32))] [(.ref a)])
  obtain ⟨T53, X53, e53, s53⟩ := initO X0 hx hZ hown (hw _ (List.mem_of_getElem? (i := 11) rfl)) (hw _ (List.mem_of_getElem? (i := 12) rfl)) (hw _ (List.mem_of_getElem? (i := 13) rfl)) e0 (g := (mkF m 1 #[.val (.ref a), .val (.ref x), .val (.int (0 : Int32))] [(.ref a)])) rfl (by rw [hml]; rfl) rfl (hb hby d_jdk_42_method_151_1) (by decide) (W := 0) (by show 2 * 0 + _ ≤ _; exact Nat.le_of_eq rfl) (by decide)
  refine go s53 ?_
  show Ends p e below s _ _ _ T53 (mkF m 4 #[.val (.ref a), .val (.ref x), .val (.int (0 : Int32))] [])
  refine go (fun _ => XS.aloadN X53.here hx rfl (hb hby d_jdk_42_method_151_4) rfl rfl) ?_
  show Ends p e below s _ _ _ T53 (mkF m 5 #[.val (.ref a), .val (.ref x), .val (.int (0 : Int32))] [(.ref a)])
  refine go (fun _ => XS.aloadN X53.here hx rfl (hb hby d_jdk_42_method_151_5) rfl rfl) ?_
  show Ends p e below s _ _ _ T53 (mkF m 6 #[.val (.ref a), .val (.ref x), .val (.int (0 : Int32))] [(.ref x), (.ref a)])
  obtain ⟨T54, h54, X54, e54, W54, s54⟩ := putF X53 hx hZ hown (host := "") (Or.inl (hw _ (List.mem_of_getElem? (i := 28) rfl))) Via.refl e53 F_value E0 (Or.inr ⟨(hw _ (List.mem_of_getElem? (i := 29) rfl)), rfl, hnm⟩) (hw _ (List.mem_of_getElem? (i := 1) rfl)) (ty := (.array .byte)) (by decide) rfl rfl (g := (mkF m 6 #[.val (.ref a), .val (.ref x), .val (.int (0 : Int32))] [(.ref x), (.ref a)])) rfl rfl (hb hby d_jdk_42_method_151_6)
  have N54 := Fr.snoc X54 (Fr.nil _) f0
  have O55 : Ext Z.heap h54 := xw O0 W54 f0
  refine go s54 ?_
  show Ends p e below s _ _ _ T54 (mkF m 9 #[.val (.ref a), .val (.ref x), .val (.int (0 : Int32))] [])
  refine go (fun _ => XS.aloadN X54.here hx rfl (hb hby d_jdk_42_method_151_9) rfl rfl) ?_
  show Ends p e below s _ _ _ T54 (mkF m 10 #[.val (.ref a), .val (.ref x), .val (.int (0 : Int32))] [(.ref a)])
  refine go (fun _ => XS.iloadN X54.here hx rfl (hb hby d_jdk_42_method_151_10) rfl) ?_
  show Ends p e below s _ _ _ T54 (mkF m 11 #[.val (.ref a), .val (.ref x), .val (.int (0 : Int32))] [(.int (0 : Int32)), (.ref a)])
  have F56 := (Exa.wr W54 E0)
  have F57 := (Fld.other W54 F_coder (Or.inr (slot_ne (a0 := a0) (Or.inr (hw _ (List.mem_of_getElem? (i := 27) rfl))) (Or.inr (hw _ (List.mem_of_getElem? (i := 29) rfl))) (by decide) (t := .byte) (t' := (.array .byte)) (by decide) (by decide))))
  obtain ⟨T58, h58, X58, e58, W58, s58⟩ := putF X54 hx hZ hown (host := "") (Or.inl (hw _ (List.mem_of_getElem? (i := 26) rfl))) Via.refl e54 F57 F56 (Or.inr ⟨(hw _ (List.mem_of_getElem? (i := 27) rfl)), rfl, hnm⟩) (hw _ (List.mem_of_getElem? (i := 1) rfl)) (ty := .byte) (by decide) rfl rfl (g := (mkF m 11 #[.val (.ref a), .val (.ref x), .val (.int (0 : Int32))] [(.int (0 : Int32)), (.ref a)])) rfl rfl (hb hby d_jdk_42_method_151_11)
  have N58 := Fr.snoc X58 N54 f0
  have O59 : Ext Z.heap h58 := xw O55 W58 f0
  refine go s58 ?_
  show Ends p e below s _ _ _ T58 (mkF m 14 #[.val (.ref a), .val (.ref x), .val (.int (0 : Int32))] [])
  have K60 : Keep h0 h58 [a] := (Keep.wr (Keep.wr (Keep.refl _ _) W54 (Or.inl (List.mem_of_getElem? (i := 0) rfl))) W58 (Or.inl (List.mem_of_getElem? (i := 0) rfl)))
  have F61 := (Fld.other W58 (Fld.same W54 F_value) (Or.inr (slot_ne (a0 := a0) (Or.inr (hw _ (List.mem_of_getElem? (i := 29) rfl))) (Or.inr (hw _ (List.mem_of_getElem? (i := 27) rfl))) (by decide) (t := (.array .byte)) (t' := .byte) (by decide) (by decide))))
  have F62 := (Fld.same W58 F57)
  exact endV X58 hx hlk hret (hb hby d_jdk_42_method_151_14) e58 ⟨rfl, N58, K60, F61, F62⟩ (by decide) (by decide)
set_option maxRecDepth 65536 in
set_option maxHeartbeats 40000000 in
theorem rm_cvalueOf {l : Launch} {Z : State} {a0 : Array Value} (hw : ∀ d ∈ tables_1, d.before a0 Z = true) (y : Int32) (h0 : Heap) (O0 : Ext Z.heap h0) (l0 : ¬ (255 : Int32) < y) (cz : Int32) (SCS : Sta Z Z.heap "java/lang/String" "COMPACT_STRINGS" "Z" (.int cz)) (hcz : ¬ cz = (0 : Int32)) :
    Con l (⟨"java/lang/String", "valueOf", "(C)Ljava/lang/String;"⟩ : MethodName) jdk_42_method_139_code 1 (some (.object "java/lang/String")) ({ frames := 2, cells := 2, slots := 5, locals := 27 } : Room) Z #[(.int y)] h0 (fun v h L => ∃ (a b : Addr) (k : ClassId), v = some (.ref a) ∧ Fr Z.heap.size L ∧ Keep h0 h [] ∧ h0.size ≤ a ∧ h0.size ≤ b ∧ a ≠ b ∧ Exa Z h a "java/lang/String" ∧ Fld Z h a "java/lang/String" "value" "[B" (.ref b) ∧ Fld Z h a "java/lang/String" "coder" "B" (.int 0) ∧ Arv Z h b k .byte (1 : Int32) [(.int y.toInt8.toInt32)] (.int 0)) := by
  refine Con.of (plainFor_of_name pn_2) (Ls := #[.val (.int y)]) (fun m => by first | rfl | (simp [entryFrame, mkF, argsToLocals, Value.category]; done)) ?_
  intro p e s m below meth c T0 X0 hx hZ hby hml hown hnm hret hlk e0
  obtain ⟨T63, X63, e63, s63⟩ := getS2 X0 hx hZ hown (host := "") (Or.inl (hw _ (List.mem_of_getElem? (i := 14) rfl))) Via.refl e0 (Sta.ext O0 SCS) (g := (mkF m 0 #[.val (.int y)] [])) rfl (hb hby d_jdk_42_method_139_0)
  refine go s63 ?_
  show Ends p e below s _ _ _ T63 (mkF m 3 #[.val (.int y)] [(.int cz)])
  refine go (fun _ => XS.ifNo X63.here hx rfl (hb hby d_jdk_42_method_139_3) rfl (XT.i0_eq_f hcz)) ?_
  show Ends p e below s _ _ _ T63 (mkF m 6 #[.val (.int y)] [])
  refine go (fun _ => XS.iloadN X63.here hx rfl (hb hby d_jdk_42_method_139_6) rfl) ?_
  show Ends p e below s _ _ _ T63 (mkF m 7 #[.val (.int y)] [(.int y)])
  refine cStat X63 hx hZ hown (by rw [hml]; rfl) e63 (hw _ (List.mem_of_getElem? (i := 33) rfl)) (hw _ (List.mem_of_getElem? (i := 34) rfl)) (hw _ (List.mem_of_getElem? (i := 35) rfl)) (hw _ (List.mem_of_getElem? (i := 36) rfl)) [(.int y)] [] rfl (rm_can hw y _ l0) (hb hby d_jdk_42_method_139_7) rfl (lenOf pd_7 rfl) (by decide) (by decide) (Nat.le_of_ble_eq_true rfl) (by decide) (by decide) ?_
  rintro v64 T64 h64 L64 X64 e64 ⟨rfl, N64, rfl⟩
  have N64a := Fr.app (Fr.nil _) N64
  show Ends p e below s _ _ _ T64 (mkF m 10 #[.val (.int y)] [(.int (1 : Int32))])
  refine go (fun _ => XS.ifNo X64.here hx rfl (hb hby d_jdk_42_method_139_10) rfl (XT.i0_eq_f ((by decide) : ¬ ((1 : Int32) = (0 : Int32))))) ?_
  show Ends p e below s _ _ _ T64 (mkF m 13 #[.val (.int y)] [])
  obtain ⟨T65, h65, X65, e65, E65, A65, D65, U65, s65⟩ := newO X64 hx hZ hown (hw _ (List.mem_of_getElem? (i := 37) rfl)) (hw _ (List.mem_of_getElem? (i := 1) rfl)) (hw _ (List.mem_of_getElem? (i := 2) rfl)) e64 (g := (mkF m 13 #[.val (.int y)] [])) rfl (hb hby d_jdk_42_method_139_13) (by decide) (by decide)
  obtain ⟨a65, g65⟩ : ∃ z : Addr, z = h0.size := ⟨_, rfl⟩
  have f65 : Z.heap.size ≤ a65 := by rw [g65]; exact (O0).1
  have K66 : Keep h0 h0 [] := (Keep.refl _ _)
  have b65 : h0.size ≤ a65 := by rw [g65]; exact (K66).1
  rw [← g65] at A65 D65 U65 s65
  have O67 : Ext Z.heap h65 := xx O0 E65
  refine go s65 ?_
  show Ends p e below s _ _ _ T65 (mkF m 16 #[.val (.int y)] [(.ref a65)])
  refine go (fun _ => XS.dup X65.here hx rfl (hb hby d_jdk_42_method_139_16) rfl rfl) ?_
  show Ends p e below s _ _ _ T65 (mkF m 17 #[.val (.int y)] [(.ref a65), (.ref a65)])
  refine go (fun _ => XS.iloadN X65.here hx rfl (hb hby d_jdk_42_method_139_17) rfl) ?_
  show Ends p e below s _ _ _ T65 (mkF m 18 #[.val (.int y)] [(.int y), (.ref a65), (.ref a65)])
  refine cStat X65 hx hZ hown (by rw [hml]; rfl) e65 (hw _ (List.mem_of_getElem? (i := 38) rfl)) (hw _ (List.mem_of_getElem? (i := 39) rfl)) (hw _ (List.mem_of_getElem? (i := 35) rfl)) (hw _ (List.mem_of_getElem? (i := 40) rfl)) [(.int y)] [(.ref a65), (.ref a65)] rfl (rm_tobytes hw y _ O67) (hb hby d_jdk_42_method_139_18) rfl (lenOf pd_8 rfl) (by decide) (by decide) (Nat.le_of_ble_eq_true rfl) (by decide) (by decide) ?_
  rintro v68 T68 h68 L68 X68 e68 ⟨b68, k68, rfl, N68, K68, g68, V68⟩
  have N68a := Fr.app N64a N68
  have n69 : a65 ≠ b68 := Nat.ne_of_lt (Nat.lt_of_lt_of_le (A65.lt) g68)
  have f70 : Z.heap.size ≤ b68 := Nat.le_trans (O67).1 g68
  have K71 : Keep h0 h65 [] := (Keep.ext K66 E65)
  have b70 : h0.size ≤ b68 := Nat.le_trans (K71).1 g68
  have O72 : Ext Z.heap h68 := xk O67 K68 all0
  show Ends p e below s _ _ _ T68 (mkF m 21 #[.val (.int y)] [(.ref b68), (.ref a65), (.ref a65)])
  refine go (fun _ => XT.iconstV X68.here hx rfl (0 : Int32) (hb hby d_jdk_42_method_139_21) (by decide)) ?_
  show Ends p e below s _ _ _ T68 (mkF m 22 #[.val (.int y)] [(.int (0 : Int32)), (.ref b68), (.ref a65), (.ref a65)])
  have F73 := (Exa.keep A65 K68)
  have F74 := (Fld.keep (D65 (Or.inr (hw _ (List.mem_of_getElem? (i := 29) rfl))) (ty := (.array .byte)) (by decide)) K68 nin0)
  have F75 := (Fld.keep (D65 (Or.inr (hw _ (List.mem_of_getElem? (i := 27) rfl))) (ty := .byte) (by decide)) K68 nin0)
  refine cInit X68 hx hZ hown (by rw [hml]; rfl) e68 (hw _ (List.mem_of_getElem? (i := 41) rfl)) (hw _ (List.mem_of_getElem? (i := 42) rfl)) (hw _ (List.mem_of_getElem? (i := 2) rfl)) (hw _ (List.mem_of_getElem? (i := 43) rfl)) a65 [(.ref b68), (.int (0 : Int32))] [(.ref a65)] rfl (rm_strbb hw a65 b68 _ O72 f65 F73 F74 F75  ) (hb hby d_jdk_42_method_139_22) rfl (lenOf pd_9 rfl) rfl (by decide) (by decide) (Nat.le_of_ble_eq_true rfl) (by decide) (by decide) ?_
  rintro v76 T76 h76 L76 X76 e76 ⟨rfl, N76, K76, F76_0, F76_1⟩
  have N76a := Fr.app N68a N76
  have O77 : Ext Z.heap h76 := xk O72 K76 (allS f65 all0)
  show Ends p e below s _ _ _ T76 (mkF m 25 #[.val (.int y)] [(.ref a65)])
  have K78 : Keep h0 h76 [] := (Keep.trans (Keep.trans K71 K68 all0) K76 (allS (Or.inr b65) all0))
  have F79 := (Exa.keep F73 K76)
  have F80 := (Arv.keep V68 K76 (ninS (Ne.symm n69) nin0))
  exact endA X76 hx hlk hret rfl rfl (hb hby d_jdk_42_method_139_25) e76 ⟨a65, b68, _, rfl, N76a, K78, b65, b70, n69, F79, F76_0, F76_1, F80⟩ (by decide) (by decide)
theorem own_box {x : Int32} (h1 : ¬ x < (-128 : Int32)) (h2 : ¬ (127 : Int32) < x) : ¬ (x + 128) < 0 ∧ (x + 128) < (256 : Int32) := by
  have e1 : (-128 : Int32).toInt = -128 := by decide
  have e2 : (127 : Int32).toInt = 127 := by decide
  have e3 : (128 : Int32).toInt = 128 := by decide
  have e4 : (256 : Int32).toInt = 256 := by decide
  have e5 : (0 : Int32).toInt = 0 := by decide
  have q := c_iadd x 128
  have r := rng32 (x + 128)
  simp only [Int32.lt_iff_toInt_lt, e1, e2, e3, e4, e5] at *
  omega
theorem own_boxv (x : Int32) : x + 128 - 128 = x := by
  apply Int32.toInt_inj.mp
  have q := c_iadd x 128
  have r := c_isub (x + 128) 128
  have e3 : (128 : Int32).toInt = 128 := by decide
  have r1 := rng32 (x + 128 - 128)
  have r2 := rng32 x
  rw [e3] at q r
  omega
set_option maxRecDepth 65536 in
set_option maxHeartbeats 40000000 in
theorem rm_number {l : Launch} {Z : State} {a0 : Array Value} (hw : ∀ d ∈ tables_1, d.before a0 Z = true) (a : Addr) (h0 : Heap)  :
    Con l (⟨"java/lang/Number", "<init>", "()V"⟩ : MethodName) jdk_18_method_1_code 1 none ({ frames := 1, cells := 0, slots := 0, locals := 12 } : Room) Z #[(.ref a)] h0 (fun v h L => v = none ∧ Fr Z.heap.size L ∧ h0 = h) := by
  refine Con.of (plainFor_of_name pn_10) (Ls := #[.val (.ref a)]) (fun m => by first | rfl | (simp [entryFrame, mkF, argsToLocals, Value.category]; done)) ?_
  intro p e s m below meth c T0 X0 hx hZ hby hml hown hnm hret hlk e0
  refine go (fun _ => XS.aloadN X0.here hx rfl (hb hby d_jdk_18_method_1_0) rfl rfl) ?_
  show Ends p e below s _ _ _ T0 (mkF m 1 #[.val (.ref a)] [(.ref a)])
  obtain ⟨T81, X81, e81, s81⟩ := initO X0 hx hZ hown (hw _ (List.mem_of_getElem? (i := 84) rfl)) (hw _ (List.mem_of_getElem? (i := 12) rfl)) (hw _ (List.mem_of_getElem? (i := 13) rfl)) e0 (g := (mkF m 1 #[.val (.ref a)] [(.ref a)])) rfl (by rw [hml]; rfl) rfl (hb hby d_jdk_18_method_1_1) (by decide) (W := 0) (by show 2 * 0 + _ ≤ _; exact Nat.le_of_eq rfl) (by decide)
  refine go s81 ?_
  show Ends p e below s _ _ _ T81 (mkF m 4 #[.val (.ref a)] [])
  exact endV X81 hx hlk hret (hb hby d_jdk_18_method_1_4) e81 ⟨rfl, (Fr.nil _), rfl⟩ (by decide) (by decide)
set_option maxRecDepth 65536 in
set_option maxHeartbeats 40000000 in
theorem rm_integer {l : Launch} {Z : State} {a0 : Array Value} (hw : ∀ d ∈ tables_1, d.before a0 Z = true) (a : Addr) (x : Int32) (h0 : Heap) (O0 : Ext Z.heap h0) (f0 : Z.heap.size ≤ a) (E0 : Exa Z h0 a "java/lang/Integer") (F_value : Fld Z h0 a "java/lang/Integer" "value" "I" (.int (0 : Int32)))   :
    Con l (⟨"java/lang/Integer", "<init>", "(I)V"⟩ : MethodName) jdk_33_method_23_code 2 none ({ frames := 2, cells := 0, slots := 0, locals := 24 } : Room) Z #[(.ref a), (.int x)] h0 (fun v h L => v = none ∧ Fr Z.heap.size L ∧ Keep h0 h [a] ∧ Fld Z h a "java/lang/Integer" "value" "I" (.int x)) := by
  refine Con.of (plainFor_of_name pn_11) (Ls := #[.val (.ref a), .val (.int x)]) (fun m => by first | rfl | (simp [entryFrame, mkF, argsToLocals, Value.category]; done)) ?_
  intro p e s m below meth c T0 X0 hx hZ hby hml hown hnm hret hlk e0
  refine go (fun _ => XS.aloadN X0.here hx rfl (hb hby d_jdk_33_method_23_0) rfl rfl) ?_
  show Ends p e below s _ _ _ T0 (mkF m 1 #[.val (.ref a), .val (.int x)] [(.ref a)])
  refine cInit X0 hx hZ hown (by rw [hml]; rfl) e0 (hw _ (List.mem_of_getElem? (i := 78) rfl)) (hw _ (List.mem_of_getElem? (i := 79) rfl)) (hw _ (List.mem_of_getElem? (i := 82) rfl)) (hw _ (List.mem_of_getElem? (i := 83) rfl)) a [] [] rfl (rm_number hw a _) (hb hby d_jdk_33_method_23_1) rfl (lenOf pd_12 rfl) rfl (by decide) (by decide) (Nat.le_of_ble_eq_true rfl) (by decide) (by decide) ?_
  rintro v82 T82 h82 L82 X82 e82 ⟨rfl, N82, rfl⟩
  have N82a := Fr.app (Fr.nil _) N82
  show Ends p e below s _ _ _ T82 (mkF m 4 #[.val (.ref a), .val (.int x)] [])
  refine go (fun _ => XS.aloadN X82.here hx rfl (hb hby d_jdk_33_method_23_4) rfl rfl) ?_
  show Ends p e below s _ _ _ T82 (mkF m 5 #[.val (.ref a), .val (.int x)] [(.ref a)])
  refine go (fun _ => XS.iloadN X82.here hx rfl (hb hby d_jdk_33_method_23_5) rfl) ?_
  show Ends p e below s _ _ _ T82 (mkF m 6 #[.val (.ref a), .val (.int x)] [(.int x), (.ref a)])
  obtain ⟨T83, h83, X83, e83, W83, s83⟩ := putF X82 hx hZ hown (host := "") (Or.inl (hw _ (List.mem_of_getElem? (i := 85) rfl))) Via.refl e82 F_value E0 (Or.inr ⟨(hw _ (List.mem_of_getElem? (i := 86) rfl)), rfl, hnm⟩) (hw _ (List.mem_of_getElem? (i := 73) rfl)) (ty := .int) (by decide) rfl rfl (g := (mkF m 6 #[.val (.ref a), .val (.int x)] [(.int x), (.ref a)])) rfl rfl (hb hby d_jdk_33_method_23_6)
  have N83 := Fr.snoc X83 N82a f0
  have O84 : Ext Z.heap h83 := xw O0 W83 f0
  refine go s83 ?_
  show Ends p e below s _ _ _ T83 (mkF m 9 #[.val (.ref a), .val (.int x)] [])
  have K85 : Keep h0 h83 [a] := (Keep.wr (Keep.refl _ _) W83 (Or.inl (List.mem_of_getElem? (i := 0) rfl)))
  have F86 := (Fld.same W83 F_value)
  exact endV X83 hx hlk hret (hb hby d_jdk_33_method_23_9) e83 ⟨rfl, N83, K85, F86⟩ (by decide) (by decide)
set_option maxRecDepth 65536 in
set_option maxHeartbeats 40000000 in
theorem rm_ivalueOf {l : Launch} {Z : State} {a0 : Array Value} (hw : ∀ d ∈ tables_1, d.before a0 Z = true) (x : Int32) (aB : Addr) (cB : Cell) (h0 : Heap) (O0 : Ext Z.heap h0) (SH : Sta Z Z.heap "java/lang/Integer$IntegerCache" "high" "I" (.int 127)) (SB : Sta Z Z.heap "java/lang/Integer$IntegerCache" "cache" "[Ljava/lang/Integer;" (.ref aB)) (BX : Bxs Z aB cB "java/lang/Integer" "I" (256 : Int32) (fun j => .int (j - 128))) :
    Con l (⟨"java/lang/Integer", "valueOf", "(I)Ljava/lang/Integer;"⟩ : MethodName) jdk_33_method_22_code 1 (some (.object "java/lang/Integer")) ({ frames := 3, cells := 1, slots := 1, locals := 38 } : Room) Z #[(.int x)] h0 (fun v h L => ∃ b, v = some (.ref b) ∧ Fr Z.heap.size L ∧ Keep h0 h [] ∧ Exa Z h b "java/lang/Integer" ∧ Fld Z h b "java/lang/Integer" "value" "I" (.int x)) := by
  refine Con.of (plainFor_of_name pn_11) (Ls := #[.val (.int x)]) (fun m => by first | rfl | (simp [entryFrame, mkF, argsToLocals, Value.category]; done)) ?_
  intro p e s m below meth c T0 X0 hx hZ hby hml hown hnm hret hlk e0
  refine go (fun _ => XS.iloadN X0.here hx rfl (hb hby d_jdk_33_method_22_0) rfl) ?_
  show Ends p e below s _ _ _ T0 (mkF m 1 #[.val (.int x)] [(.int x)])
  refine go (fun _ => XT.bipushV X0.here hx rfl (-128 : Int32) (hb hby d_jdk_33_method_22_1) (by decide)) ?_
  show Ends p e below s _ _ _ T0 (mkF m 3 #[.val (.int x)] [(.int (-128 : Int32)), (.int x)])
  by_cases c3_87 : x < (-128 : Int32)
  · refine go (fun _ => XS.icmpYes X0.here hx rfl (pc0 := 3) (pc' := 23) rfl (hb hby d_jdk_33_method_22_3) rfl (XT.ii_lt_t c3_87) (by decide) (by decide)) ?_
    show Ends p e below s _ _ _ T0 (mkF m 23 #[.val (.int x)] [])
    obtain ⟨T88, h88, X88, e88, E88, A88, D88, U88, s88⟩ := newO X0 hx hZ hown (hw _ (List.mem_of_getElem? (i := 72) rfl)) (hw _ (List.mem_of_getElem? (i := 73) rfl)) (hw _ (List.mem_of_getElem? (i := 46) rfl)) e0 (g := (mkF m 23 #[.val (.int x)] [])) rfl (hb hby d_jdk_33_method_22_23) (by decide) (by decide)
    obtain ⟨a88, g88⟩ : ∃ z : Addr, z = h0.size := ⟨_, rfl⟩
    have f88 : Z.heap.size ≤ a88 := by rw [g88]; exact (O0).1
    have K89 : Keep h0 h0 [] := (Keep.refl _ _)
    have b88 : h0.size ≤ a88 := by rw [g88]; exact (K89).1
    rw [← g88] at A88 D88 U88 s88
    have O90 : Ext Z.heap h88 := xx O0 E88
    refine go s88 ?_
    show Ends p e below s _ _ _ T88 (mkF m 26 #[.val (.int x)] [(.ref a88)])
    refine go (fun _ => XS.dup X88.here hx rfl (hb hby d_jdk_33_method_22_26) rfl rfl) ?_
    show Ends p e below s _ _ _ T88 (mkF m 27 #[.val (.int x)] [(.ref a88), (.ref a88)])
    refine go (fun _ => XS.iloadN X88.here hx rfl (hb hby d_jdk_33_method_22_27) rfl) ?_
    show Ends p e below s _ _ _ T88 (mkF m 28 #[.val (.int x)] [(.int x), (.ref a88), (.ref a88)])
    have F91 := (D88 (Or.inr (hw _ (List.mem_of_getElem? (i := 86) rfl))) (ty := .int) (by decide))
    refine cInit X88 hx hZ hown (by rw [hml]; rfl) e88 (hw _ (List.mem_of_getElem? (i := 74) rfl)) (hw _ (List.mem_of_getElem? (i := 75) rfl)) (hw _ (List.mem_of_getElem? (i := 46) rfl)) (hw _ (List.mem_of_getElem? (i := 77) rfl)) a88 [(.int x)] [(.ref a88)] rfl (rm_integer hw a88 x _ O90 f88 A88 F91  ) (hb hby d_jdk_33_method_22_28) rfl (lenOf pd_13 rfl) rfl (by decide) (by decide) (Nat.le_of_ble_eq_true rfl) (by decide) (by decide) ?_
    rintro v92 T92 h92 L92 X92 e92 ⟨rfl, N92, K92, F92_0⟩
    have N92a := Fr.app (Fr.nil _) N92
    have O93 : Ext Z.heap h92 := xk O90 K92 (allS f88 all0)
    show Ends p e below s _ _ _ T92 (mkF m 31 #[.val (.int x)] [(.ref a88)])
    have K94 : Keep h0 h92 [] := (Keep.trans (Keep.ext K89 E88) K92 (allS (Or.inr b88) all0))
    have F95 := (Exa.keep A88 K92)
    exact endA X92 hx hlk hret rfl rfl (hb hby d_jdk_33_method_22_31) e92 ⟨a88, rfl, N92a, K94, F95, F92_0⟩ (by decide) (by decide)
  · refine go (fun _ => XS.icmpNo X0.here hx rfl (hb hby d_jdk_33_method_22_3) rfl (XT.ii_lt_f c3_87)) ?_
    show Ends p e below s _ _ _ T0 (mkF m 6 #[.val (.int x)] [])
    refine go (fun _ => XS.iloadN X0.here hx rfl (hb hby d_jdk_33_method_22_6) rfl) ?_
    show Ends p e below s _ _ _ T0 (mkF m 7 #[.val (.int x)] [(.int x)])
    obtain ⟨T96, X96, e96, s96⟩ := getS2 X0 hx hZ hown (host := "") (Or.inl (hw _ (List.mem_of_getElem? (i := 48) rfl))) Via.refl e0 (Sta.ext O0 SH) (g := (mkF m 7 #[.val (.int x)] [(.int x)])) rfl (hb hby d_jdk_33_method_22_7)
    refine go s96 ?_
    show Ends p e below s _ _ _ T96 (mkF m 10 #[.val (.int x)] [(.int (127 : Int32)), (.int x)])
    by_cases c10_97 : (127 : Int32) < x
    · refine go (fun _ => XS.icmpYes X96.here hx rfl (pc0 := 10) (pc' := 23) rfl (hb hby d_jdk_33_method_22_10) rfl (XT.ii_gt_t c10_97) (by decide) (by decide)) ?_
      show Ends p e below s _ _ _ T96 (mkF m 23 #[.val (.int x)] [])
      obtain ⟨T98, h98, X98, e98, E98, A98, D98, U98, s98⟩ := newO X96 hx hZ hown (hw _ (List.mem_of_getElem? (i := 72) rfl)) (hw _ (List.mem_of_getElem? (i := 73) rfl)) (hw _ (List.mem_of_getElem? (i := 46) rfl)) e96 (g := (mkF m 23 #[.val (.int x)] [])) rfl (hb hby d_jdk_33_method_22_23) (by decide) (by decide)
      obtain ⟨a98, g98⟩ : ∃ z : Addr, z = h0.size := ⟨_, rfl⟩
      have f98 : Z.heap.size ≤ a98 := by rw [g98]; exact (O0).1
      have K99 : Keep h0 h0 [] := (Keep.refl _ _)
      have b98 : h0.size ≤ a98 := by rw [g98]; exact (K99).1
      rw [← g98] at A98 D98 U98 s98
      have O100 : Ext Z.heap h98 := xx O0 E98
      refine go s98 ?_
      show Ends p e below s _ _ _ T98 (mkF m 26 #[.val (.int x)] [(.ref a98)])
      refine go (fun _ => XS.dup X98.here hx rfl (hb hby d_jdk_33_method_22_26) rfl rfl) ?_
      show Ends p e below s _ _ _ T98 (mkF m 27 #[.val (.int x)] [(.ref a98), (.ref a98)])
      refine go (fun _ => XS.iloadN X98.here hx rfl (hb hby d_jdk_33_method_22_27) rfl) ?_
      show Ends p e below s _ _ _ T98 (mkF m 28 #[.val (.int x)] [(.int x), (.ref a98), (.ref a98)])
      have F101 := (D98 (Or.inr (hw _ (List.mem_of_getElem? (i := 86) rfl))) (ty := .int) (by decide))
      refine cInit X98 hx hZ hown (by rw [hml]; rfl) e98 (hw _ (List.mem_of_getElem? (i := 74) rfl)) (hw _ (List.mem_of_getElem? (i := 75) rfl)) (hw _ (List.mem_of_getElem? (i := 46) rfl)) (hw _ (List.mem_of_getElem? (i := 77) rfl)) a98 [(.int x)] [(.ref a98)] rfl (rm_integer hw a98 x _ O100 f98 A98 F101  ) (hb hby d_jdk_33_method_22_28) rfl (lenOf pd_13 rfl) rfl (by decide) (by decide) (Nat.le_of_ble_eq_true rfl) (by decide) (by decide) ?_
      rintro v102 T102 h102 L102 X102 e102 ⟨rfl, N102, K102, F102_0⟩
      have N102a := Fr.app (Fr.nil _) N102
      have O103 : Ext Z.heap h102 := xk O100 K102 (allS f98 all0)
      show Ends p e below s _ _ _ T102 (mkF m 31 #[.val (.int x)] [(.ref a98)])
      have K104 : Keep h0 h102 [] := (Keep.trans (Keep.ext K99 E98) K102 (allS (Or.inr b98) all0))
      have F105 := (Exa.keep A98 K102)
      exact endA X102 hx hlk hret rfl rfl (hb hby d_jdk_33_method_22_31) e102 ⟨a98, rfl, N102a, K104, F105, F102_0⟩ (by decide) (by decide)
    · refine go (fun _ => XS.icmpNo X96.here hx rfl (hb hby d_jdk_33_method_22_10) rfl (XT.ii_gt_f c10_97)) ?_
      show Ends p e below s _ _ _ T96 (mkF m 13 #[.val (.int x)] [])
      obtain ⟨T106, X106, e106, s106⟩ := getS2 X96 hx hZ hown (host := "") (Or.inl (hw _ (List.mem_of_getElem? (i := 50) rfl))) Via.refl e96 (Sta.ext O0 SB) (g := (mkF m 13 #[.val (.int x)] [])) rfl (hb hby d_jdk_33_method_22_13)
      refine go s106 ?_
      show Ends p e below s _ _ _ T106 (mkF m 16 #[.val (.int x)] [(.ref aB)])
      refine go (fun _ => XS.iloadN X106.here hx rfl (hb hby d_jdk_33_method_22_16) rfl) ?_
      show Ends p e below s _ _ _ T106 (mkF m 17 #[.val (.int x)] [(.int x), (.ref aB)])
      refine go (fun _ => XT.sipushV X106.here hx rfl (128 : Int32) (hb hby d_jdk_33_method_22_17) (by decide)) ?_
      show Ends p e below s _ _ _ T106 (mkF m 20 #[.val (.int x)] [(.int (128 : Int32)), (.int x), (.ref aB)])
      refine go (fun _ => XS.iadd X106.here hx rfl (hb hby d_jdk_33_method_22_20) rfl) ?_
      show Ends p e below s _ _ _ T106 (mkF m 21 #[.val (.int x)] [(.int (x + (128 : Int32))), (.ref aB)])
      have q107 := own_box c3_87 c10_97
      have i107 := inb_of BX.2.1 q107
      obtain ⟨b107, b1107, b2107, b3107⟩ := BX.2.2.2 _ i107
      have A107 := (BX.ext O0).1
      refine go (fun _ => X106.aaload hx (j := (x + (128 : Int32))) (v := .ref b107) (by rw [e106]; exact A107.1) (State.isArrayOf_alike hZ.alike A107.2.1) rfl A107.2.2 i107 b1107 (g := (mkF m 21 #[.val (.int x)] [(.int (x + (128 : Int32))), (.ref aB)])) rfl rfl (hb hby d_jdk_33_method_22_21) _) ?_
      show Ends p e below s _ _ _ T106 (mkF m 22 #[.val (.int x)] [(.ref b107)])
      simp only [own_boxv] at b3107
      have K108 : Keep h0 h0 [] := (Keep.refl _ _)
      have F109 := (Exa.ext O0 b2107)
      have F110 := (Fld.ext O0 b3107)
      exact endA X106 hx hlk hret rfl rfl (hb hby d_jdk_33_method_22_22) e106 ⟨b107, rfl, (Fr.nil _), K108, F109, F110⟩ (by decide) (by decide)
set_option maxRecDepth 65536 in
set_option maxHeartbeats 40000000 in
theorem rm_rnn {l : Launch} {Z : State} {a0 : Array Value} (hw : ∀ d ∈ tables_1, d.before a0 Z = true) (a : Addr) (h0 : Heap)  :
    Con l (⟨"java/util/Objects", "requireNonNull", "(Ljava/lang/Object;)Ljava/lang/Object;"⟩ : MethodName) jdk_31_method_10_code 1 (some (.object "java/lang/Object")) ({ frames := 0, cells := 0, slots := 0, locals := 0 } : Room) Z #[(.ref a)] h0 (fun v h L => v = some (.ref a) ∧ Fr Z.heap.size L ∧ h0 = h) := by
  refine Con.of (plainFor_of_name pn_14) (Ls := #[.val (.ref a)]) (fun m => by first | rfl | (simp [entryFrame, mkF, argsToLocals, Value.category]; done)) ?_
  intro p e s m below meth c T0 X0 hx hZ hby hml hown hnm hret hlk e0
  refine go (fun _ => XS.aloadN X0.here hx rfl (hb hby d_jdk_31_method_10_0) rfl rfl) ?_
  show Ends p e below s _ _ _ T0 (mkF m 1 #[.val (.ref a)] [(.ref a)])
  refine go (fun _ => XT.ifnonnullYes X0.here hx rfl (pc0 := 1) (pc' := 12) rfl (hb hby d_jdk_31_method_10_1) rfl (by decide) (by decide)) ?_
  show Ends p e below s _ _ _ T0 (mkF m 12 #[.val (.ref a)] [])
  refine go (fun _ => XS.aloadN X0.here hx rfl (hb hby d_jdk_31_method_10_12) rfl rfl) ?_
  show Ends p e below s _ _ _ T0 (mkF m 13 #[.val (.ref a)] [(.ref a)])
  exact endA X0 hx hlk hret rfl rfl (hb hby d_jdk_31_method_10_13) e0 ⟨rfl, (Fr.nil _), rfl⟩ (by decide) (by decide)
set_option maxRecDepth 65536 in
set_option maxHeartbeats 40000000 in
theorem rm_mv {l : Launch} {Z : State} {a0 : Array Value} (hw : ∀ d ∈ tables_1, d.before a0 Z = true) (a : Addr) (x : Addr) (w : Value) (h0 : Heap) (O0 : Ext Z.heap h0) (f0 : Z.heap.size ≤ a) (E0 : Exa Z h0 a "com/example/durable_state/durablestate/io/MarkedValue") (F_migration : Fld Z h0 a "com/example/durable_state/durablestate/io/MarkedValue" "migration" "Ljava/lang/String;" .null) (F_value : Fld Z h0 a "com/example/durable_state/durablestate/io/MarkedValue" "value" "Ljava/lang/Object;" .null) (wr : w.isRef = true) (Ex : Exa Z h0 x "java/lang/String") :
    Con l (⟨"com/example/durable_state/durablestate/io/MarkedValue", "<init>", "(Ljava/lang/String;Ljava/lang/Object;)V"⟩ : MethodName) prog_10_method_1_code 3 none ({ frames := 1, cells := 0, slots := 0, locals := 13 } : Room) Z #[(.ref a), (.ref x), w] h0 (fun v h L => v = none ∧ Fr Z.heap.size L ∧ Keep h0 h [a] ∧ Fld Z h a "com/example/durable_state/durablestate/io/MarkedValue" "migration" "Ljava/lang/String;" (.ref x) ∧ Fld Z h a "com/example/durable_state/durablestate/io/MarkedValue" "value" "Ljava/lang/Object;" w) := by
  refine Con.of (plainFor_of_name pn_15) (Ls := #[.val (.ref a), .val (.ref x), .val w]) (fun m => by rcases ref_cases wr with rfl | ⟨_, rfl⟩ <;> first | rfl | (simp [entryFrame, mkF, argsToLocals, Value.category]; done)) ?_
  intro p e s m below meth c T0 X0 hx hZ hby hml hown hnm hret hlk e0
  refine go (fun _ => XS.aloadN X0.here hx rfl (hb hby d_prog_10_method_1_0) rfl rfl) ?_
  show Ends p e below s _ _ _ T0 (mkF m 1 #[.val (.ref a), .val (.ref x), .val w] [(.ref a)])
  obtain ⟨T111, X111, e111, s111⟩ := initO X0 hx hZ hown (hw _ (List.mem_of_getElem? (i := 60) rfl)) (hw _ (List.mem_of_getElem? (i := 12) rfl)) (hw _ (List.mem_of_getElem? (i := 13) rfl)) e0 (g := (mkF m 1 #[.val (.ref a), .val (.ref x), .val w] [(.ref a)])) rfl (by rw [hml]; rfl) rfl (hb hby d_prog_10_method_1_1) (by decide) (W := 0) (by show 2 * 0 + _ ≤ _; exact Nat.le_of_eq rfl) (by decide)
  refine go s111 ?_
  show Ends p e below s _ _ _ T111 (mkF m 4 #[.val (.ref a), .val (.ref x), .val w] [])
  refine go (fun _ => XS.aloadN X111.here hx rfl (hb hby d_prog_10_method_1_4) rfl rfl) ?_
  show Ends p e below s _ _ _ T111 (mkF m 5 #[.val (.ref a), .val (.ref x), .val w] [(.ref a)])
  refine go (fun _ => XS.aloadN X111.here hx rfl (hb hby d_prog_10_method_1_5) rfl rfl) ?_
  show Ends p e below s _ _ _ T111 (mkF m 6 #[.val (.ref a), .val (.ref x), .val w] [(.ref x), (.ref a)])
  refine cStat X111 hx hZ hown (by rw [hml]; rfl) e111 (hw _ (List.mem_of_getElem? (i := 61) rfl)) (hw _ (List.mem_of_getElem? (i := 62) rfl)) (hw _ (List.mem_of_getElem? (i := 63) rfl)) (hw _ (List.mem_of_getElem? (i := 64) rfl)) [(.ref x)] [(.ref a)] rfl (rm_rnn hw x _) (hb hby d_prog_10_method_1_6) rfl (lenOf pd_16 rfl) (by decide) (by decide) (Nat.le_of_ble_eq_true rfl) (by decide) (by decide) ?_
  rintro v112 T112 h112 L112 X112 e112 ⟨rfl, N112, rfl⟩
  have N112a := Fr.app (Fr.nil _) N112
  show Ends p e below s _ _ _ T112 (mkF m 9 #[.val (.ref a), .val (.ref x), .val w] [(.ref x), (.ref a)])
  obtain ⟨T113, X113, e113, s113⟩ := castY X112 hx hZ hown (hw _ (List.mem_of_getElem? (i := 65) rfl)) e112 (Ins.self Ex) (g := (mkF m 9 #[.val (.ref a), .val (.ref x), .val w] [(.ref x), (.ref a)])) rfl rfl (hb hby d_prog_10_method_1_9)
  refine go s113 ?_
  show Ends p e below s _ _ _ T113 (mkF m 12 #[.val (.ref a), .val (.ref x), .val w] [(.ref x), (.ref a)])
  obtain ⟨T114, h114, X114, e114, W114, s114⟩ := putF X113 hx hZ hown (host := "") (Or.inl (hw _ (List.mem_of_getElem? (i := 66) rfl))) Via.refl e113 F_migration E0 (Or.inr ⟨(hw _ (List.mem_of_getElem? (i := 67) rfl)), rfl, hnm⟩) (hw _ (List.mem_of_getElem? (i := 56) rfl)) (ty := (.object "java/lang/String")) (by decide) rfl rfl (g := (mkF m 12 #[.val (.ref a), .val (.ref x), .val w] [(.ref x), (.ref a)])) rfl rfl (hb hby d_prog_10_method_1_12)
  have N114 := Fr.snoc X114 N112a f0
  have O115 : Ext Z.heap h114 := xw O0 W114 f0
  refine go s114 ?_
  show Ends p e below s _ _ _ T114 (mkF m 15 #[.val (.ref a), .val (.ref x), .val w] [])
  refine go (fun _ => XS.aloadN X114.here hx rfl (hb hby d_prog_10_method_1_15) rfl rfl) ?_
  show Ends p e below s _ _ _ T114 (mkF m 16 #[.val (.ref a), .val (.ref x), .val w] [(.ref a)])
  refine go (fun _ => XS.aloadN X114.here hx rfl (hb hby d_prog_10_method_1_16) rfl wr) ?_
  show Ends p e below s _ _ _ T114 (mkF m 17 #[.val (.ref a), .val (.ref x), .val w] [w, (.ref a)])
  have F116 := (Exa.wr W114 E0)
  have F117 := (Fld.other W114 F_value (Or.inr (slot_ne (a0 := a0) (Or.inr (hw _ (List.mem_of_getElem? (i := 69) rfl))) (Or.inr (hw _ (List.mem_of_getElem? (i := 67) rfl))) (by decide) (t := (.object "java/lang/Object")) (t' := (.object "java/lang/String")) (by decide) (by decide))))
  obtain ⟨T118, h118, X118, e118, W118, s118⟩ := putF X114 hx hZ hown (host := "") (Or.inl (hw _ (List.mem_of_getElem? (i := 68) rfl))) Via.refl e114 F117 F116 (Or.inr ⟨(hw _ (List.mem_of_getElem? (i := 69) rfl)), rfl, hnm⟩) (hw _ (List.mem_of_getElem? (i := 56) rfl)) (ty := (.object "java/lang/Object")) (by decide) (by rcases ref_cases wr with h | ⟨b, h⟩ <;> rw [h] <;> rfl) (by rcases ref_cases wr with h | ⟨b, h⟩ <;> rw [h] <;> rfl) (g := (mkF m 17 #[.val (.ref a), .val (.ref x), .val w] [w, (.ref a)])) rfl rfl (hb hby d_prog_10_method_1_17)
  have N118 := Fr.snoc X118 N114 f0
  have O119 : Ext Z.heap h118 := xw O115 W118 f0
  refine go s118 ?_
  show Ends p e below s _ _ _ T118 (mkF m 20 #[.val (.ref a), .val (.ref x), .val w] [])
  have K120 : Keep h0 h118 [a] := (Keep.wr (Keep.wr (Keep.refl _ _) W114 (Or.inl (List.mem_of_getElem? (i := 0) rfl))) W118 (Or.inl (List.mem_of_getElem? (i := 0) rfl)))
  have F121 := (Fld.other W118 (Fld.same W114 F_migration) (Or.inr (slot_ne (a0 := a0) (Or.inr (hw _ (List.mem_of_getElem? (i := 67) rfl))) (Or.inr (hw _ (List.mem_of_getElem? (i := 69) rfl))) (by decide) (t := (.object "java/lang/String")) (t' := (.object "java/lang/Object")) (by decide) (by decide))))
  have F122 := (Fld.same W118 F117)
  exact endV X118 hx hlk hret (hb hby d_prog_10_method_1_20) e118 ⟨rfl, N118, K120, F121, F122⟩ (by decide) (by decide)
set_option maxRecDepth 65536 in
set_option maxHeartbeats 40000000 in
theorem rm_umN {l : Launch} {Z : State} {a0 : Array Value} (hw : ∀ d ∈ tables_1, d.before a0 Z = true)  (h0 : Heap)  :
    Con l (⟨"com/example/durable_state/durablestate/io/MarkedValue", "unmarked", "(Ljava/lang/Object;)Ljava/lang/Object;"⟩ : MethodName) prog_10_method_2_code 1 (some (.object "java/lang/Object")) ({ frames := 0, cells := 0, slots := 0, locals := 0 } : Room) Z #[.null] h0 (fun v h L => v = some .null ∧ Fr Z.heap.size L ∧ h0 = h) := by
  refine Con.of (plainFor_of_name pn_15) (Ls := #[.val .null]) (fun m => by first | rfl | (simp [entryFrame, mkF, argsToLocals, Value.category]; done)) ?_
  intro p e s m below meth c T0 X0 hx hZ hby hml hown hnm hret hlk e0
  refine go (fun _ => XS.aloadN X0.here hx rfl (hb hby d_prog_10_method_2_0) rfl rfl) ?_
  show Ends p e below s _ _ _ T0 (mkF m 1 #[.val .null] [.null])
  refine go (Jvm.Stand.instanceofNull X0 hx (g := (mkF m 1 #[.val .null] [.null])) rfl rfl (hb hby d_prog_10_method_2_1)) ?_
  show Ends p e below s _ _ _ T0 (mkF m 4 #[.val .null] [(.int (0 : Int32))])
  refine go (fun _ => XS.ifYes X0.here hx rfl (pc0 := 4) (pc' := 17) rfl (hb hby d_prog_10_method_2_4) rfl (XT.i0_eq_t ((by decide) : (0 : Int32) = (0 : Int32))) (by decide) (by decide)) ?_
  show Ends p e below s _ _ _ T0 (mkF m 17 #[.val .null] [])
  refine go (fun _ => XS.aloadN X0.here hx rfl (hb hby d_prog_10_method_2_17) rfl rfl) ?_
  show Ends p e below s _ _ _ T0 (mkF m 18 #[.val .null] [.null])
  exact endA X0 hx hlk hret rfl rfl (hb hby d_prog_10_method_2_18) e0 ⟨rfl, (Fr.nil _), rfl⟩ (by decide) (by decide)
set_option maxRecDepth 65536 in
set_option maxHeartbeats 40000000 in
theorem rm_umM {l : Launch} {Z : State} {a0 : Array Value} (hw : ∀ d ∈ tables_1, d.before a0 Z = true) (a : Addr) (w : Value) (h0 : Heap) (wr : w.isRef = true) (E0 : Exa Z h0 a "com/example/durable_state/durablestate/io/MarkedValue") (F0 : Fld Z h0 a "com/example/durable_state/durablestate/io/MarkedValue" "value" "Ljava/lang/Object;" w) :
    Con l (⟨"com/example/durable_state/durablestate/io/MarkedValue", "unmarked", "(Ljava/lang/Object;)Ljava/lang/Object;"⟩ : MethodName) prog_10_method_2_code 1 (some (.object "java/lang/Object")) ({ frames := 0, cells := 0, slots := 0, locals := 0 } : Room) Z #[(.ref a)] h0 (fun v h L => v = some w ∧ Fr Z.heap.size L ∧ h0 = h) := by
  refine Con.of (plainFor_of_name pn_15) (Ls := #[.val (.ref a)]) (fun m => by first | rfl | (simp [entryFrame, mkF, argsToLocals, Value.category]; done)) ?_
  intro p e s m below meth c T0 X0 hx hZ hby hml hown hnm hret hlk e0
  refine go (fun _ => XS.aloadN X0.here hx rfl (hb hby d_prog_10_method_2_0) rfl rfl) ?_
  show Ends p e below s _ _ _ T0 (mkF m 1 #[.val (.ref a)] [(.ref a)])
  obtain ⟨T124, X124, e124, s124⟩ := instY X0 hx hZ hown (hw _ (List.mem_of_getElem? (i := 70) rfl)) e0 (Ins.self E0) (g := (mkF m 1 #[.val (.ref a)] [(.ref a)])) rfl rfl (hb hby d_prog_10_method_2_1)
  refine go s124 ?_
  show Ends p e below s _ _ _ T124 (mkF m 4 #[.val (.ref a)] [(.int (1 : Int32))])
  refine go (fun _ => XS.ifNo X124.here hx rfl (hb hby d_prog_10_method_2_4) rfl (XT.i0_eq_f ((by decide) : ¬ ((1 : Int32) = (0 : Int32))))) ?_
  show Ends p e below s _ _ _ T124 (mkF m 7 #[.val (.ref a)] [])
  refine go (fun _ => XS.aloadN X124.here hx rfl (hb hby d_prog_10_method_2_7) rfl rfl) ?_
  show Ends p e below s _ _ _ T124 (mkF m 8 #[.val (.ref a)] [(.ref a)])
  obtain ⟨T125, X125, e125, s125⟩ := castY X124 hx hZ hown (hw _ (List.mem_of_getElem? (i := 70) rfl)) e124 (Ins.self E0) (g := (mkF m 8 #[.val (.ref a)] [(.ref a)])) rfl rfl (hb hby d_prog_10_method_2_8)
  refine go s125 ?_
  show Ends p e below s _ _ _ T125 (mkF m 11 #[.val (.ref a)] [(.ref a)])
  obtain ⟨T126, X126, e126, s126⟩ := getF X125 hx hZ hown (host := "") (Or.inl (hw _ (List.mem_of_getElem? (i := 68) rfl))) Via.refl e125 F0 (g := (mkF m 11 #[.val (.ref a)] [(.ref a)])) rfl rfl (hb hby d_prog_10_method_2_11)
  refine go s126 ?_
  show Ends p e below s _ _ _ T126 (mkF m 14 #[.val (.ref a)] [w])
  refine go (fun _ => XS.goto X126.here hx rfl (pc0 := 14) (pc' := 18) rfl (hb hby d_prog_10_method_2_14) (by decide) (by decide)) ?_
  show Ends p e below s _ _ _ T126 (mkF m 18 #[.val (.ref a)] [w])
  exact endA X126 hx hlk hret rfl wr (hb hby d_prog_10_method_2_18) e126 ⟨rfl, (Fr.nil _), rfl⟩ (by decide) (by decide)
set_option maxRecDepth 65536 in
set_option maxHeartbeats 40000000 in
theorem rm_umS {l : Launch} {Z : State} {a0 : Array Value} (hw : ∀ d ∈ tables_1, d.before a0 Z = true) (a : Addr) (h0 : Heap) (E0 : Exa Z h0 a "java/lang/String") :
    Con l (⟨"com/example/durable_state/durablestate/io/MarkedValue", "unmarked", "(Ljava/lang/Object;)Ljava/lang/Object;"⟩ : MethodName) prog_10_method_2_code 1 (some (.object "java/lang/Object")) ({ frames := 0, cells := 0, slots := 0, locals := 0 } : Room) Z #[(.ref a)] h0 (fun v h L => v = some (.ref a) ∧ Fr Z.heap.size L ∧ h0 = h) := by
  refine Con.of (plainFor_of_name pn_15) (Ls := #[.val (.ref a)]) (fun m => by first | rfl | (simp [entryFrame, mkF, argsToLocals, Value.category]; done)) ?_
  intro p e s m below meth c T0 X0 hx hZ hby hml hown hnm hret hlk e0
  refine go (fun _ => XS.aloadN X0.here hx rfl (hb hby d_prog_10_method_2_0) rfl rfl) ?_
  show Ends p e below s _ _ _ T0 (mkF m 1 #[.val (.ref a)] [(.ref a)])
  obtain ⟨T127, X127, e127, s127⟩ := instNo X0 hx hZ hown (hw _ (List.mem_of_getElem? (i := 70) rfl)) e0 E0 (own_nsno (hw _ (List.mem_of_getElem? (i := 87) rfl)) (hw _ (List.mem_of_getElem? (i := 56) rfl)) (NS.step (hw _ (List.mem_of_getElem? (i := 87) rfl)) (own_nsroot (hw _ (List.mem_of_getElem? (i := 88) rfl)) (hw _ (List.mem_of_getElem? (i := 56) rfl)) (by decide)) (by decide)) (by decide)) (g := (mkF m 1 #[.val (.ref a)] [(.ref a)])) rfl rfl (hb hby d_prog_10_method_2_1)
  refine go s127 ?_
  show Ends p e below s _ _ _ T127 (mkF m 4 #[.val (.ref a)] [(.int (0 : Int32))])
  refine go (fun _ => XS.ifYes X127.here hx rfl (pc0 := 4) (pc' := 17) rfl (hb hby d_prog_10_method_2_4) rfl (XT.i0_eq_t ((by decide) : (0 : Int32) = (0 : Int32))) (by decide) (by decide)) ?_
  show Ends p e below s _ _ _ T127 (mkF m 17 #[.val (.ref a)] [])
  refine go (fun _ => XS.aloadN X127.here hx rfl (hb hby d_prog_10_method_2_17) rfl rfl) ?_
  show Ends p e below s _ _ _ T127 (mkF m 18 #[.val (.ref a)] [(.ref a)])
  exact endA X127 hx hlk hret rfl rfl (hb hby d_prog_10_method_2_18) e127 ⟨rfl, (Fr.nil _), rfl⟩ (by decide) (by decide)
set_option maxRecDepth 65536 in
set_option maxHeartbeats 40000000 in
theorem rm_umI {l : Launch} {Z : State} {a0 : Array Value} (hw : ∀ d ∈ tables_1, d.before a0 Z = true) (a : Addr) (h0 : Heap) (E0 : Exa Z h0 a "java/lang/Integer") :
    Con l (⟨"com/example/durable_state/durablestate/io/MarkedValue", "unmarked", "(Ljava/lang/Object;)Ljava/lang/Object;"⟩ : MethodName) prog_10_method_2_code 1 (some (.object "java/lang/Object")) ({ frames := 0, cells := 0, slots := 0, locals := 0 } : Room) Z #[(.ref a)] h0 (fun v h L => v = some (.ref a) ∧ Fr Z.heap.size L ∧ h0 = h) := by
  refine Con.of (plainFor_of_name pn_15) (Ls := #[.val (.ref a)]) (fun m => by first | rfl | (simp [entryFrame, mkF, argsToLocals, Value.category]; done)) ?_
  intro p e s m below meth c T0 X0 hx hZ hby hml hown hnm hret hlk e0
  refine go (fun _ => XS.aloadN X0.here hx rfl (hb hby d_prog_10_method_2_0) rfl rfl) ?_
  show Ends p e below s _ _ _ T0 (mkF m 1 #[.val (.ref a)] [(.ref a)])
  obtain ⟨T128, X128, e128, s128⟩ := instNo X0 hx hZ hown (hw _ (List.mem_of_getElem? (i := 70) rfl)) e0 E0 (own_nsno (hw _ (List.mem_of_getElem? (i := 89) rfl)) (hw _ (List.mem_of_getElem? (i := 56) rfl)) (NS.step (hw _ (List.mem_of_getElem? (i := 89) rfl)) (NS.step (hw _ (List.mem_of_getElem? (i := 90) rfl)) (own_nsroot (hw _ (List.mem_of_getElem? (i := 88) rfl)) (hw _ (List.mem_of_getElem? (i := 56) rfl)) (by decide)) (by decide)) (by decide)) (by decide)) (g := (mkF m 1 #[.val (.ref a)] [(.ref a)])) rfl rfl (hb hby d_prog_10_method_2_1)
  refine go s128 ?_
  show Ends p e below s _ _ _ T128 (mkF m 4 #[.val (.ref a)] [(.int (0 : Int32))])
  refine go (fun _ => XS.ifYes X128.here hx rfl (pc0 := 4) (pc' := 17) rfl (hb hby d_prog_10_method_2_4) rfl (XT.i0_eq_t ((by decide) : (0 : Int32) = (0 : Int32))) (by decide) (by decide)) ?_
  show Ends p e below s _ _ _ T128 (mkF m 17 #[.val (.ref a)] [])
  refine go (fun _ => XS.aloadN X128.here hx rfl (hb hby d_prog_10_method_2_17) rfl rfl) ?_
  show Ends p e below s _ _ _ T128 (mkF m 18 #[.val (.ref a)] [(.ref a)])
  exact endA X128 hx hlk hret rfl rfl (hb hby d_prog_10_method_2_18) e128 ⟨rfl, (Fr.nil _), rfl⟩ (by decide) (by decide)
set_option maxRecDepth 65536 in
set_option maxHeartbeats 40000000 in
theorem rm_law {l : Launch} {Z : State} {a0 : Array Value} (hw : ∀ d ∈ tables_1, d.before a0 Z = true) (i0 i1 i2 i3 : Int32) (aB : Addr) (cB : Cell) (h0 : Heap) (O0 : Ext Z.heap h0) (cz : Int32) (SCS : Sta Z Z.heap "java/lang/String" "COMPACT_STRINGS" "Z" (.int cz)) (hcz : ¬ cz = (0 : Int32)) (SH : Sta Z Z.heap "java/lang/Integer$IntegerCache" "high" "I" (.int 127)) (SB : Sta Z Z.heap "java/lang/Integer$IntegerCache" "cache" "[Ljava/lang/Integer;" (.ref aB)) (BX : Bxs Z aB cB "java/lang/Integer" "I" (256 : Int32) (fun j => .int (j - 128))) :
    Con l x code maxLocals ret room_1 Z #[(.int i0), (.int i1), (.int i2), (.int i3)] h0 (fun v h L => v = some (.int 1) ∧ Fr Z.heap.size L) := by
  refine Con.of (plainFor_of_name pn_17) (Ls := #[.val (.int i0), .val (.int i1), .val (.int i2), .val (.int i3), .unset, .unset, .unset, .unset, .unset, .unset, .unset, .unset]) (fun m => by first | rfl | (simp [entryFrame, mkF, argsToLocals, Value.category, maxLocals]; done)) ?_
  intro p e s m below meth c T0 X0 hx hZ hby hml hown hnm hret hlk e0
  have hml : c.maxLocals = 12 := hml
  refine go (fun _ => XS.iloadN X0.here hx rfl (hb hby at_0) rfl) ?_
  show Ends p e below s _ _ _ T0 (mkF m 1 #[.val (.int i0), .val (.int i1), .val (.int i2), .val (.int i3), .unset, .unset, .unset, .unset, .unset, .unset, .unset, .unset] [(.int i0)])
  refine go (fun _ => XT.iconstV X0.here hx rfl (3 : Int32) (hb hby at_1) (by decide)) ?_
  show Ends p e below s _ _ _ T0 (mkF m 2 #[.val (.int i0), .val (.int i1), .val (.int i2), .val (.int i3), .unset, .unset, .unset, .unset, .unset, .unset, .unset, .unset] [(.int (3 : Int32)), (.int i0)])
  refine go (fun _ => XS.iand X0.here hx rfl (hb hby at_2) rfl) ?_
  show Ends p e below s _ _ _ T0 (mkF m 3 #[.val (.int i0), .val (.int i1), .val (.int i2), .val (.int i3), .unset, .unset, .unset, .unset, .unset, .unset, .unset, .unset] [(.int (i0 &&& (3 : Int32)))])
  obtain ⟨kk, hkk⟩ : ∃ z : Int32, z = (i0 &&& (3 : Int32)) := ⟨_, rfl⟩
  rw [← hkk]
  show Ends p e below s _ _ _ T0 (mkF m 3 #[.val (.int i0), .val (.int i1), .val (.int i2), .val (.int i3), .unset, .unset, .unset, .unset, .unset, .unset, .unset, .unset] [(.int kk)])
  refine go (fun _ => XS.istore X0.here hx rfl (hb hby at_3) rfl (l' := #[.val (.int i0), .val (.int i1), .val (.int i2), .val (.int i3), .val (.int kk), .unset, .unset, .unset, .unset, .unset, .unset, .unset]) rfl) ?_
  show Ends p e below s _ _ _ T0 (mkF m 5 #[.val (.int i0), .val (.int i1), .val (.int i2), .val (.int i3), .val (.int kk), .unset, .unset, .unset, .unset, .unset, .unset, .unset] [])
  refine go (fun _ => XS.iloadN X0.here hx rfl (hb hby at_5) rfl) ?_
  show Ends p e below s _ _ _ T0 (mkF m 6 #[.val (.int i0), .val (.int i1), .val (.int i2), .val (.int i3), .val (.int kk), .unset, .unset, .unset, .unset, .unset, .unset, .unset] [(.int i0)])
  refine go (fun _ => XT.iconstV X0.here hx rfl (4 : Int32) (hb hby at_6) (by decide)) ?_
  show Ends p e below s _ _ _ T0 (mkF m 7 #[.val (.int i0), .val (.int i1), .val (.int i2), .val (.int i3), .val (.int kk), .unset, .unset, .unset, .unset, .unset, .unset, .unset] [(.int (4 : Int32)), (.int i0)])
  refine go (fun _ => XS.iand X0.here hx rfl (hb hby at_7) rfl) ?_
  show Ends p e below s _ _ _ T0 (mkF m 8 #[.val (.int i0), .val (.int i1), .val (.int i2), .val (.int i3), .val (.int kk), .unset, .unset, .unset, .unset, .unset, .unset, .unset] [(.int (i0 &&& (4 : Int32)))])
  have J16 : ∀ (z129_0 : Int32), Ends p e below s (fun v h L => v = some (.int 1) ∧ Fr Z.heap.size L) room_1.cells room_1.slots T0 (mkF m 16 #[.val (.int i0), .val (.int i1), .val (.int i2), .val (.int i3), .val (.int kk), .unset, .unset, .unset, .unset, .unset, .unset, .unset] [(.int z129_0)]) := by
    intro z129_0
    refine go (fun _ => XS.istore X0.here hx rfl (hb hby at_16) rfl (l' := #[.val (.int i0), .val (.int i1), .val (.int i2), .val (.int i3), .val (.int kk), .val (.int z129_0), .unset, .unset, .unset, .unset, .unset, .unset]) rfl) ?_
    show Ends p e below s _ _ _ T0 (mkF m 18 #[.val (.int i0), .val (.int i1), .val (.int i2), .val (.int i3), .val (.int kk), .val (.int z129_0), .unset, .unset, .unset, .unset, .unset, .unset] [])
    obtain ⟨T130, h130, X130, e130, E130, A130, D130, U130, s130⟩ := newO X0 hx hZ hown (hw _ (List.mem_of_getElem? (i := 0) rfl)) (hw _ (List.mem_of_getElem? (i := 1) rfl)) (hw _ (List.mem_of_getElem? (i := 2) rfl)) e0 (g := (mkF m 18 #[.val (.int i0), .val (.int i1), .val (.int i2), .val (.int i3), .val (.int kk), .val (.int z129_0), .unset, .unset, .unset, .unset, .unset, .unset] [])) rfl (hb hby at_18) (by decide) (by decide)
    obtain ⟨a130, g130⟩ : ∃ z : Addr, z = h0.size := ⟨_, rfl⟩
    have f130 : Z.heap.size ≤ a130 := by rw [g130]; exact (O0).1
    rw [← g130] at A130 D130 U130 s130
    have O131 : Ext Z.heap h130 := xx O0 E130
    refine go s130 ?_
    show Ends p e below s _ _ _ T130 (mkF m 21 #[.val (.int i0), .val (.int i1), .val (.int i2), .val (.int i3), .val (.int kk), .val (.int z129_0), .unset, .unset, .unset, .unset, .unset, .unset] [(.ref a130)])
    refine go (fun _ => XS.dup X130.here hx rfl (hb hby at_21) rfl rfl) ?_
    show Ends p e below s _ _ _ T130 (mkF m 22 #[.val (.int i0), .val (.int i1), .val (.int i2), .val (.int i3), .val (.int kk), .val (.int z129_0), .unset, .unset, .unset, .unset, .unset, .unset] [(.ref a130), (.ref a130)])
    refine go (fun _ => XT.iconstV X130.here hx rfl (2 : Int32) (hb hby at_22) (by decide)) ?_
    show Ends p e below s _ _ _ T130 (mkF m 23 #[.val (.int i0), .val (.int i1), .val (.int i2), .val (.int i3), .val (.int kk), .val (.int z129_0), .unset, .unset, .unset, .unset, .unset, .unset] [(.int (2 : Int32)), (.ref a130), (.ref a130)])
    obtain ⟨T132, h132, k132, X132, e132, E132, A132, s132⟩ := newP X130 hx hZ (hw _ (List.mem_of_getElem? (i := 3) rfl)) e130 (g := (mkF m 23 #[.val (.int i0), .val (.int i1), .val (.int i2), .val (.int i3), .val (.int kk), .val (.int z129_0), .unset, .unset, .unset, .unset, .unset, .unset] [(.int (2 : Int32)), (.ref a130), (.ref a130)])) rfl (hb hby at_23) rfl (by decide) (cap := 2) (by decide) (by decide) (by decide) (by decide)
    obtain ⟨a132, g132⟩ : ∃ z : Addr, z = h130.size := ⟨_, rfl⟩
    have n133 : a130 ≠ a132 := fun q => absurd (A130.lt) (by rw [q, g132]; exact Nat.lt_irrefl _)
    have f132 : Z.heap.size ≤ a132 := by rw [g132]; exact (O131).1
    rw [← g132] at A132 s132
    have O134 : Ext Z.heap h132 := xx O131 E132
    have V132 : Arv Z h132 a132 k132 .char (2 : Int32) [(.int (0 : Int32)), (.int (0 : Int32))] (.int 0) := Arv.pad (Arv.new A132 (by decide)) (pad_rep [] _ 2)
    refine go s132 ?_
    show Ends p e below s _ _ _ T132 (mkF m 25 #[.val (.int i0), .val (.int i1), .val (.int i2), .val (.int i3), .val (.int kk), .val (.int z129_0), .unset, .unset, .unset, .unset, .unset, .unset] [(.ref a132), (.ref a130), (.ref a130)])
    refine go (fun _ => XS.dup X132.here hx rfl (hb hby at_25) rfl rfl) ?_
    show Ends p e below s _ _ _ T132 (mkF m 26 #[.val (.int i0), .val (.int i1), .val (.int i2), .val (.int i3), .val (.int kk), .val (.int z129_0), .unset, .unset, .unset, .unset, .unset, .unset] [(.ref a132), (.ref a132), (.ref a130), (.ref a130)])
    refine go (fun _ => XT.iconstV X132.here hx rfl (0 : Int32) (hb hby at_26) (by decide)) ?_
    show Ends p e below s _ _ _ T132 (mkF m 27 #[.val (.int i0), .val (.int i1), .val (.int i2), .val (.int i3), .val (.int kk), .val (.int z129_0), .unset, .unset, .unset, .unset, .unset, .unset] [(.int (0 : Int32)), (.ref a132), (.ref a132), (.ref a130), (.ref a130)])
    refine go (fun _ => XS.iloadN X132.here hx rfl (hb hby at_27) rfl) ?_
    show Ends p e below s _ _ _ T132 (mkF m 28 #[.val (.int i0), .val (.int i1), .val (.int i2), .val (.int i3), .val (.int kk), .val (.int z129_0), .unset, .unset, .unset, .unset, .unset, .unset] [(.int i2), (.int (0 : Int32)), (.ref a132), (.ref a132), (.ref a130), (.ref a130)])
    refine go (fun _ => XT.sipushV X132.here hx rfl (255 : Int32) (hb hby at_28) (by decide)) ?_
    show Ends p e below s _ _ _ T132 (mkF m 31 #[.val (.int i0), .val (.int i1), .val (.int i2), .val (.int i3), .val (.int kk), .val (.int z129_0), .unset, .unset, .unset, .unset, .unset, .unset] [(.int (255 : Int32)), (.int i2), (.int (0 : Int32)), (.ref a132), (.ref a132), (.ref a130), (.ref a130)])
    refine go (fun _ => XS.iand X132.here hx rfl (hb hby at_31) rfl) ?_
    show Ends p e below s _ _ _ T132 (mkF m 32 #[.val (.int i0), .val (.int i1), .val (.int i2), .val (.int i3), .val (.int kk), .val (.int z129_0), .unset, .unset, .unset, .unset, .unset, .unset] [(.int (i2 &&& (255 : Int32))), (.int (0 : Int32)), (.ref a132), (.ref a132), (.ref a130), (.ref a130)])
    refine go (fun _ => XT.i2c X132.here hx rfl (hb hby at_32) rfl) ?_
    show Ends p e below s _ _ _ T132 (mkF m 33 #[.val (.int i0), .val (.int i1), .val (.int i2), .val (.int i3), .val (.int kk), .val (.int z129_0), .unset, .unset, .unset, .unset, .unset, .unset] [(.int (i2 &&& (255 : Int32)).toUInt32.toUInt16.toUInt32.toInt32), (.int (0 : Int32)), (.ref a132), (.ref a132), (.ref a130), (.ref a130)])
    obtain ⟨ch135, hch135⟩ : ∃ z : Int32, z = (i2 &&& (255 : Int32)).toUInt32.toUInt16.toUInt32.toInt32 := ⟨_, rfl⟩
    have lc135 : ¬ (255 : Int32) < ch135 := by rw [hch135]; exact (own_ch _).1
    have nc135 : nar .char ch135 = ch135 := by rw [hch135]; exact own_nc _
    rw [← hch135]
    show Ends p e below s _ _ _ T132 (mkF m 33 #[.val (.int i0), .val (.int i1), .val (.int i2), .val (.int i3), .val (.int kk), .val (.int z129_0), .unset, .unset, .unset, .unset, .unset, .unset] [(.int ch135), (.int (0 : Int32)), (.ref a132), (.ref a132), (.ref a130), (.ref a130)])
    obtain ⟨cl136, A136, q136, S136, M136, H136, G136⟩ := id V132
    obtain ⟨T136, h136, X136, e136, W136, s136⟩ := stC X132 hx hZ e132 A136 (j := (0 : Int32)) (inb_of S136 (by decide)) (g := (mkF m 33 #[.val (.int i0), .val (.int i1), .val (.int i2), .val (.int i3), .val (.int kk), .val (.int z129_0), .unset, .unset, .unset, .unset, .unset, .unset] [(.int ch135), (.int (0 : Int32)), (.ref a132), (.ref a132), (.ref a130), (.ref a130)])) rfl rfl (hb hby at_33)
    have r136 : nar .char ch135 = ch135 := nc135
    rw [r136] at W136
    have N136 := Fr.snoc X136 (Fr.nil _) f132
    have O137 : Ext Z.heap h136 := xw O134 W136 f132
    have V136 : Arv Z h136 a132 k132 .char (2 : Int32) [(.int ch135), (.int (0 : Int32))] (.int 0) := Arv.set A136 q136 S136 M136 H136 G136 (by first | rfl | exact fits_nar_char ch135 | (rw [← r136]; exact fits_nar_char ch135)) W136 0 (by decide) (Nat.le_of_ble_eq_true rfl)
    refine go s136 ?_
    show Ends p e below s _ _ _ T136 (mkF m 34 #[.val (.int i0), .val (.int i1), .val (.int i2), .val (.int i3), .val (.int kk), .val (.int z129_0), .unset, .unset, .unset, .unset, .unset, .unset] [(.ref a132), (.ref a130), (.ref a130)])
    refine go (fun _ => XS.dup X136.here hx rfl (hb hby at_34) rfl rfl) ?_
    show Ends p e below s _ _ _ T136 (mkF m 35 #[.val (.int i0), .val (.int i1), .val (.int i2), .val (.int i3), .val (.int kk), .val (.int z129_0), .unset, .unset, .unset, .unset, .unset, .unset] [(.ref a132), (.ref a132), (.ref a130), (.ref a130)])
    refine go (fun _ => XT.iconstV X136.here hx rfl (1 : Int32) (hb hby at_35) (by decide)) ?_
    show Ends p e below s _ _ _ T136 (mkF m 36 #[.val (.int i0), .val (.int i1), .val (.int i2), .val (.int i3), .val (.int kk), .val (.int z129_0), .unset, .unset, .unset, .unset, .unset, .unset] [(.int (1 : Int32)), (.ref a132), (.ref a132), (.ref a130), (.ref a130)])
    refine go (fun _ => XS.iloadN X136.here hx rfl (hb hby at_36) rfl) ?_
    show Ends p e below s _ _ _ T136 (mkF m 37 #[.val (.int i0), .val (.int i1), .val (.int i2), .val (.int i3), .val (.int kk), .val (.int z129_0), .unset, .unset, .unset, .unset, .unset, .unset] [(.int i3), (.int (1 : Int32)), (.ref a132), (.ref a132), (.ref a130), (.ref a130)])
    refine go (fun _ => XT.sipushV X136.here hx rfl (255 : Int32) (hb hby at_37) (by decide)) ?_
    show Ends p e below s _ _ _ T136 (mkF m 40 #[.val (.int i0), .val (.int i1), .val (.int i2), .val (.int i3), .val (.int kk), .val (.int z129_0), .unset, .unset, .unset, .unset, .unset, .unset] [(.int (255 : Int32)), (.int i3), (.int (1 : Int32)), (.ref a132), (.ref a132), (.ref a130), (.ref a130)])
    refine go (fun _ => XS.iand X136.here hx rfl (hb hby at_40) rfl) ?_
    show Ends p e below s _ _ _ T136 (mkF m 41 #[.val (.int i0), .val (.int i1), .val (.int i2), .val (.int i3), .val (.int kk), .val (.int z129_0), .unset, .unset, .unset, .unset, .unset, .unset] [(.int (i3 &&& (255 : Int32))), (.int (1 : Int32)), (.ref a132), (.ref a132), (.ref a130), (.ref a130)])
    refine go (fun _ => XT.i2c X136.here hx rfl (hb hby at_41) rfl) ?_
    show Ends p e below s _ _ _ T136 (mkF m 42 #[.val (.int i0), .val (.int i1), .val (.int i2), .val (.int i3), .val (.int kk), .val (.int z129_0), .unset, .unset, .unset, .unset, .unset, .unset] [(.int (i3 &&& (255 : Int32)).toUInt32.toUInt16.toUInt32.toInt32), (.int (1 : Int32)), (.ref a132), (.ref a132), (.ref a130), (.ref a130)])
    obtain ⟨ch138, hch138⟩ : ∃ z : Int32, z = (i3 &&& (255 : Int32)).toUInt32.toUInt16.toUInt32.toInt32 := ⟨_, rfl⟩
    have lc138 : ¬ (255 : Int32) < ch138 := by rw [hch138]; exact (own_ch _).1
    have nc138 : nar .char ch138 = ch138 := by rw [hch138]; exact own_nc _
    rw [← hch138]
    show Ends p e below s _ _ _ T136 (mkF m 42 #[.val (.int i0), .val (.int i1), .val (.int i2), .val (.int i3), .val (.int kk), .val (.int z129_0), .unset, .unset, .unset, .unset, .unset, .unset] [(.int ch138), (.int (1 : Int32)), (.ref a132), (.ref a132), (.ref a130), (.ref a130)])
    obtain ⟨cl139, A139, q139, S139, M139, H139, G139⟩ := id V136
    obtain ⟨T139, h139, X139, e139, W139, s139⟩ := stC X136 hx hZ e136 A139 (j := (1 : Int32)) (inb_of S139 (by decide)) (g := (mkF m 42 #[.val (.int i0), .val (.int i1), .val (.int i2), .val (.int i3), .val (.int kk), .val (.int z129_0), .unset, .unset, .unset, .unset, .unset, .unset] [(.int ch138), (.int (1 : Int32)), (.ref a132), (.ref a132), (.ref a130), (.ref a130)])) rfl rfl (hb hby at_42)
    have r139 : nar .char ch138 = ch138 := nc138
    rw [r139] at W139
    have N139 := Fr.snoc X139 N136 f132
    have O140 : Ext Z.heap h139 := xw O137 W139 f132
    have V139 : Arv Z h139 a132 k132 .char (2 : Int32) [(.int ch135), (.int ch138)] (.int 0) := Arv.set A139 q139 S139 M139 H139 G139 (by first | rfl | exact fits_nar_char ch138 | (rw [← r139]; exact fits_nar_char ch138)) W139 1 (by decide) (Nat.le_of_ble_eq_true rfl)
    refine go s139 ?_
    show Ends p e below s _ _ _ T139 (mkF m 43 #[.val (.int i0), .val (.int i1), .val (.int i2), .val (.int i3), .val (.int kk), .val (.int z129_0), .unset, .unset, .unset, .unset, .unset, .unset] [(.ref a132), (.ref a130), (.ref a130)])
    have F141 := (Exa.wr W139 (Exa.wr W136 (Exa.ext E132 A130)))
    have F142 := (Fld.other W139 (Fld.other W136 (Fld.ext E132 (D130 (Or.inr (hw _ (List.mem_of_getElem? (i := 29) rfl))) (ty := (.array .byte)) (by decide))) (Or.inl n133)) (Or.inl n133))
    have F143 := (Fld.other W139 (Fld.other W136 (Fld.ext E132 (D130 (Or.inr (hw _ (List.mem_of_getElem? (i := 27) rfl))) (ty := .byte) (by decide))) (Or.inl n133)) (Or.inl n133))
    refine cInit X139 hx hZ hown (by rw [hml]; rfl) e139 (hw _ (List.mem_of_getElem? (i := 4) rfl)) (hw _ (List.mem_of_getElem? (i := 5) rfl)) (hw _ (List.mem_of_getElem? (i := 2) rfl)) (hw _ (List.mem_of_getElem? (i := 6) rfl)) a130 [(.ref a132)] [(.ref a130)] rfl (rm_new1_2 hw a130 a132 k132 ch135 ch138 _ O140 f130 n133 F141 F142 F143 cz SCS hcz V139 lc135 lc138) (hb hby at_43) rfl (lenOf pd_18 rfl) rfl (by decide) (by decide) (Nat.le_of_ble_eq_true rfl) (by decide) (by decide) ?_
    rintro v144 T144 h144 L144 X144 e144 ⟨b144, k144, rfl, N144, K144, g144, Fv144, Fc144, V144⟩
    have N144a := Fr.app N139 N144
    have n145 : a130 ≠ b144 := Nat.ne_of_lt (Nat.lt_of_lt_of_le (F141.lt) g144)
    have n146 : a132 ≠ b144 := Nat.ne_of_lt (Nat.lt_of_lt_of_le (V139.lt) g144)
    have f147 : Z.heap.size ≤ b144 := Nat.le_trans (O140).1 g144
    have O148 : Ext Z.heap h144 := xk O140 K144 (allS f130 all0)
    show Ends p e below s _ _ _ T144 (mkF m 46 #[.val (.int i0), .val (.int i1), .val (.int i2), .val (.int i3), .val (.int kk), .val (.int z129_0), .unset, .unset, .unset, .unset, .unset, .unset] [(.ref a130)])
    refine go (fun _ => XS.astore X144.here hx rfl (hb hby at_46) rfl rfl (l' := #[.val (.int i0), .val (.int i1), .val (.int i2), .val (.int i3), .val (.int kk), .val (.int z129_0), .val (.ref a130), .unset, .unset, .unset, .unset, .unset]) rfl) ?_
    show Ends p e below s _ _ _ T144 (mkF m 48 #[.val (.int i0), .val (.int i1), .val (.int i2), .val (.int i3), .val (.int kk), .val (.int z129_0), .val (.ref a130), .unset, .unset, .unset, .unset, .unset] [])
    refine go (fun _ => XS.iloadN X144.here hx rfl (hb hby at_48) rfl) ?_
    show Ends p e below s _ _ _ T144 (mkF m 49 #[.val (.int i0), .val (.int i1), .val (.int i2), .val (.int i3), .val (.int kk), .val (.int z129_0), .val (.ref a130), .unset, .unset, .unset, .unset, .unset] [(.int i1)])
    refine go (fun _ => XT.sipushV X144.here hx rfl (255 : Int32) (hb hby at_49) (by decide)) ?_
    show Ends p e below s _ _ _ T144 (mkF m 52 #[.val (.int i0), .val (.int i1), .val (.int i2), .val (.int i3), .val (.int kk), .val (.int z129_0), .val (.ref a130), .unset, .unset, .unset, .unset, .unset] [(.int (255 : Int32)), (.int i1)])
    refine go (fun _ => XS.iand X144.here hx rfl (hb hby at_52) rfl) ?_
    show Ends p e below s _ _ _ T144 (mkF m 53 #[.val (.int i0), .val (.int i1), .val (.int i2), .val (.int i3), .val (.int kk), .val (.int z129_0), .val (.ref a130), .unset, .unset, .unset, .unset, .unset] [(.int (i1 &&& (255 : Int32)))])
    refine go (fun _ => XT.i2c X144.here hx rfl (hb hby at_53) rfl) ?_
    show Ends p e below s _ _ _ T144 (mkF m 54 #[.val (.int i0), .val (.int i1), .val (.int i2), .val (.int i3), .val (.int kk), .val (.int z129_0), .val (.ref a130), .unset, .unset, .unset, .unset, .unset] [(.int (i1 &&& (255 : Int32)).toUInt32.toUInt16.toUInt32.toInt32)])
    obtain ⟨ch149, hch149⟩ : ∃ z : Int32, z = (i1 &&& (255 : Int32)).toUInt32.toUInt16.toUInt32.toInt32 := ⟨_, rfl⟩
    have lc149 : ¬ (255 : Int32) < ch149 := by rw [hch149]; exact (own_ch _).1
    have nc149 : nar .char ch149 = ch149 := by rw [hch149]; exact own_nc _
    rw [← hch149]
    show Ends p e below s _ _ _ T144 (mkF m 54 #[.val (.int i0), .val (.int i1), .val (.int i2), .val (.int i3), .val (.int kk), .val (.int z129_0), .val (.ref a130), .unset, .unset, .unset, .unset, .unset] [(.int ch149)])
    refine cStat X144 hx hZ hown (by rw [hml]; rfl) e144 (hw _ (List.mem_of_getElem? (i := 30) rfl)) (hw _ (List.mem_of_getElem? (i := 31) rfl)) (hw _ (List.mem_of_getElem? (i := 2) rfl)) (hw _ (List.mem_of_getElem? (i := 32) rfl)) [(.int ch149)] [] rfl (rm_cvalueOf hw ch149 _ O148 lc149 cz SCS hcz) (hb hby at_54) rfl (lenOf pd_19 rfl) (by decide) (by decide) (Nat.le_of_ble_eq_true rfl) (by decide) (by decide) ?_
    rintro v150 T150 h150 L150 X150 e150 ⟨a150, b150, k150, rfl, N150, K150, ga150, gb150, nn150, E150, Fv150, Fc150, V150⟩
    have N150a := Fr.app N144a N150
    have F151 := (Exa.keep F141 K144)
    have n152 : a130 ≠ a150 := Nat.ne_of_lt (Nat.lt_of_lt_of_le (F151.lt) ga150)
    have F153 := (Arv.keep V139 K144 (ninS (Ne.symm n133) nin0))
    have n154 : a132 ≠ a150 := Nat.ne_of_lt (Nat.lt_of_lt_of_le (F153.lt) ga150)
    have n155 : b144 ≠ a150 := Nat.ne_of_lt (Nat.lt_of_lt_of_le (V144.lt) ga150)
    have f156 : Z.heap.size ≤ a150 := Nat.le_trans (O148).1 ga150
    have n157 : a130 ≠ b150 := Nat.ne_of_lt (Nat.lt_of_lt_of_le (F151.lt) gb150)
    have n158 : a132 ≠ b150 := Nat.ne_of_lt (Nat.lt_of_lt_of_le (F153.lt) gb150)
    have n159 : b144 ≠ b150 := Nat.ne_of_lt (Nat.lt_of_lt_of_le (V144.lt) gb150)
    have f160 : Z.heap.size ≤ b150 := Nat.le_trans (O148).1 gb150
    have O161 : Ext Z.heap h150 := xk O148 K150 all0
    show Ends p e below s _ _ _ T150 (mkF m 57 #[.val (.int i0), .val (.int i1), .val (.int i2), .val (.int i3), .val (.int kk), .val (.int z129_0), .val (.ref a130), .unset, .unset, .unset, .unset, .unset] [(.ref a150)])
    refine go (fun _ => XS.astore X150.here hx rfl (hb hby at_57) rfl rfl (l' := #[.val (.int i0), .val (.int i1), .val (.int i2), .val (.int i3), .val (.int kk), .val (.int z129_0), .val (.ref a130), .val (.ref a150), .unset, .unset, .unset, .unset]) rfl) ?_
    show Ends p e below s _ _ _ T150 (mkF m 59 #[.val (.int i0), .val (.int i1), .val (.int i2), .val (.int i3), .val (.int kk), .val (.int z129_0), .val (.ref a130), .val (.ref a150), .unset, .unset, .unset, .unset] [])
    refine go (fun _ => XS.iloadN X150.here hx rfl (hb hby at_59) rfl) ?_
    show Ends p e below s _ _ _ T150 (mkF m 60 #[.val (.int i0), .val (.int i1), .val (.int i2), .val (.int i3), .val (.int kk), .val (.int z129_0), .val (.ref a130), .val (.ref a150), .unset, .unset, .unset, .unset] [(.int i1)])
    refine cStat X150 hx hZ hown (by rw [hml]; rfl) e150 (hw _ (List.mem_of_getElem? (i := 44) rfl)) (hw _ (List.mem_of_getElem? (i := 45) rfl)) (hw _ (List.mem_of_getElem? (i := 46) rfl)) (hw _ (List.mem_of_getElem? (i := 47) rfl)) [(.int i1)] [] rfl (rm_ivalueOf hw i1 aB cB _ O161 SH SB BX) (hb hby at_60) rfl (lenOf pd_20 rfl) (by decide) (by decide) (Nat.le_of_ble_eq_true rfl) (by decide) (by decide) ?_
    rintro v162 T162 h162 L162 X162 e162 ⟨b162, rfl, N162, K162, E162, F162_0⟩
    have N162a := Fr.app N150a N162
    have O163 : Ext Z.heap h162 := xk O161 K162 all0
    show Ends p e below s _ _ _ T162 (mkF m 63 #[.val (.int i0), .val (.int i1), .val (.int i2), .val (.int i3), .val (.int kk), .val (.int z129_0), .val (.ref a130), .val (.ref a150), .unset, .unset, .unset, .unset] [(.ref b162)])
    refine go (fun _ => XS.astore X162.here hx rfl (hb hby at_63) rfl rfl (l' := #[.val (.int i0), .val (.int i1), .val (.int i2), .val (.int i3), .val (.int kk), .val (.int z129_0), .val (.ref a130), .val (.ref a150), .val (.ref b162), .unset, .unset, .unset]) rfl) ?_
    show Ends p e below s _ _ _ T162 (mkF m 65 #[.val (.int i0), .val (.int i1), .val (.int i2), .val (.int i3), .val (.int kk), .val (.int z129_0), .val (.ref a130), .val (.ref a150), .val (.ref b162), .unset, .unset, .unset] [])
    refine go (fun _ => XS.iload X162.here hx rfl (hb hby at_65) rfl) ?_
    show Ends p e below s _ _ _ T162 (mkF m 67 #[.val (.int i0), .val (.int i1), .val (.int i2), .val (.int i3), .val (.int kk), .val (.int z129_0), .val (.ref a130), .val (.ref a150), .val (.ref b162), .unset, .unset, .unset] [(.int kk)])
    by_cases c67_164 : kk = (0 : Int32)
    · refine go (fun _ => XS.ifNo X162.here hx rfl (hb hby at_67) rfl (XT.i0_ne_f c67_164)) ?_
      show Ends p e below s _ _ _ T162 (mkF m 70 #[.val (.int i0), .val (.int i1), .val (.int i2), .val (.int i3), .val (.int kk), .val (.int z129_0), .val (.ref a130), .val (.ref a150), .val (.ref b162), .unset, .unset, .unset] [])
      refine go (fun _ => XS.aconstNull X162.here hx rfl (hb hby at_70)) ?_
      show Ends p e below s _ _ _ T162 (mkF m 71 #[.val (.int i0), .val (.int i1), .val (.int i2), .val (.int i3), .val (.int kk), .val (.int z129_0), .val (.ref a130), .val (.ref a150), .val (.ref b162), .unset, .unset, .unset] [.null])
      refine go (fun _ => XS.astore X162.here hx rfl (hb hby at_71) rfl rfl (l' := #[.val (.int i0), .val (.int i1), .val (.int i2), .val (.int i3), .val (.int kk), .val (.int z129_0), .val (.ref a130), .val (.ref a150), .val (.ref b162), .val .null, .unset, .unset]) rfl) ?_
      show Ends p e below s _ _ _ T162 (mkF m 73 #[.val (.int i0), .val (.int i1), .val (.int i2), .val (.int i3), .val (.int kk), .val (.int z129_0), .val (.ref a130), .val (.ref a150), .val (.ref b162), .val .null, .unset, .unset] [])
      refine go (fun _ => XS.goto X162.here hx rfl (pc0 := 73) (pc' := 115) rfl (hb hby at_73) (by decide) (by decide)) ?_
      show Ends p e below s _ _ _ T162 (mkF m 115 #[.val (.int i0), .val (.int i1), .val (.int i2), .val (.int i3), .val (.int kk), .val (.int z129_0), .val (.ref a130), .val (.ref a150), .val (.ref b162), .val .null, .unset, .unset] [])
      refine go (fun _ => XS.iload X162.here hx rfl (hb hby at_115) rfl) ?_
      show Ends p e below s _ _ _ T162 (mkF m 117 #[.val (.int i0), .val (.int i1), .val (.int i2), .val (.int i3), .val (.int kk), .val (.int z129_0), .val (.ref a130), .val (.ref a150), .val (.ref b162), .val .null, .unset, .unset] [(.int z129_0)])
      by_cases c117_165 : z129_0 = (0 : Int32)
      · refine go (fun _ => XS.ifYes X162.here hx rfl (pc0 := 117) (pc' := 134) rfl (hb hby at_117) rfl (XT.i0_eq_t c117_165) (by decide) (by decide)) ?_
        show Ends p e below s _ _ _ T162 (mkF m 134 #[.val (.int i0), .val (.int i1), .val (.int i2), .val (.int i3), .val (.int kk), .val (.int z129_0), .val (.ref a130), .val (.ref a150), .val (.ref b162), .val .null, .unset, .unset] [])
        refine go (fun _ => XS.aload X162.here hx rfl (hb hby at_134) rfl rfl) ?_
        show Ends p e below s _ _ _ T162 (mkF m 136 #[.val (.int i0), .val (.int i1), .val (.int i2), .val (.int i3), .val (.int kk), .val (.int z129_0), .val (.ref a130), .val (.ref a150), .val (.ref b162), .val .null, .unset, .unset] [.null])
        refine go (fun _ => XS.astore X162.here hx rfl (hb hby at_136) rfl rfl (l' := #[.val (.int i0), .val (.int i1), .val (.int i2), .val (.int i3), .val (.int kk), .val (.int z129_0), .val (.ref a130), .val (.ref a150), .val (.ref b162), .val .null, .val .null, .unset]) rfl) ?_
        show Ends p e below s _ _ _ T162 (mkF m 138 #[.val (.int i0), .val (.int i1), .val (.int i2), .val (.int i3), .val (.int kk), .val (.int z129_0), .val (.ref a130), .val (.ref a150), .val (.ref b162), .val .null, .val .null, .unset] [])
        refine go (fun _ => XS.iload X162.here hx rfl (hb hby at_138) rfl) ?_
        show Ends p e below s _ _ _ T162 (mkF m 140 #[.val (.int i0), .val (.int i1), .val (.int i2), .val (.int i3), .val (.int kk), .val (.int z129_0), .val (.ref a130), .val (.ref a150), .val (.ref b162), .val .null, .val .null, .unset] [(.int z129_0)])
        refine go (fun _ => XS.ifYes X162.here hx rfl (pc0 := 140) (pc' := 150) rfl (hb hby at_140) rfl (XT.i0_eq_t c117_165) (by decide) (by decide)) ?_
        show Ends p e below s _ _ _ T162 (mkF m 150 #[.val (.int i0), .val (.int i1), .val (.int i2), .val (.int i3), .val (.int kk), .val (.int z129_0), .val (.ref a130), .val (.ref a150), .val (.ref b162), .val .null, .val .null, .unset] [])
        refine go (fun _ => XS.iload X162.here hx rfl (hb hby at_150) rfl) ?_
        show Ends p e below s _ _ _ T162 (mkF m 152 #[.val (.int i0), .val (.int i1), .val (.int i2), .val (.int i3), .val (.int kk), .val (.int z129_0), .val (.ref a130), .val (.ref a150), .val (.ref b162), .val .null, .val .null, .unset] [(.int kk)])
        refine go (fun _ => XT.iconstV X162.here hx rfl (3 : Int32) (hb hby at_152) (by decide)) ?_
        show Ends p e below s _ _ _ T162 (mkF m 153 #[.val (.int i0), .val (.int i1), .val (.int i2), .val (.int i3), .val (.int kk), .val (.int z129_0), .val (.ref a130), .val (.ref a150), .val (.ref b162), .val .null, .val .null, .unset] [(.int (3 : Int32)), (.int kk)])
        refine go (fun _ => XS.icmpYes X162.here hx rfl (pc0 := 153) (pc' := 163) rfl (hb hby at_153) rfl (XT.ii_ne_t ((by rw [c67_164]; decide) : ¬ (kk = (3 : Int32)))) (by decide) (by decide)) ?_
        show Ends p e below s _ _ _ T162 (mkF m 163 #[.val (.int i0), .val (.int i1), .val (.int i2), .val (.int i3), .val (.int kk), .val (.int z129_0), .val (.ref a130), .val (.ref a150), .val (.ref b162), .val .null, .val .null, .unset] [])
        refine go (fun _ => XS.aload X162.here hx rfl (hb hby at_163) rfl rfl) ?_
        show Ends p e below s _ _ _ T162 (mkF m 165 #[.val (.int i0), .val (.int i1), .val (.int i2), .val (.int i3), .val (.int kk), .val (.int z129_0), .val (.ref a130), .val (.ref a150), .val (.ref b162), .val .null, .val .null, .unset] [.null])
        refine go (fun _ => XS.astore X162.here hx rfl (hb hby at_165) rfl rfl (l' := #[.val (.int i0), .val (.int i1), .val (.int i2), .val (.int i3), .val (.int kk), .val (.int z129_0), .val (.ref a130), .val (.ref a150), .val (.ref b162), .val .null, .val .null, .val .null]) rfl) ?_
        show Ends p e below s _ _ _ T162 (mkF m 167 #[.val (.int i0), .val (.int i1), .val (.int i2), .val (.int i3), .val (.int kk), .val (.int z129_0), .val (.ref a130), .val (.ref a150), .val (.ref b162), .val .null, .val .null, .val .null] [])
        refine go (fun _ => XS.aload X162.here hx rfl (hb hby at_167) rfl rfl) ?_
        show Ends p e below s _ _ _ T162 (mkF m 169 #[.val (.int i0), .val (.int i1), .val (.int i2), .val (.int i3), .val (.int kk), .val (.int z129_0), .val (.ref a130), .val (.ref a150), .val (.ref b162), .val .null, .val .null, .val .null] [.null])
        refine cStat X162 hx hZ hown (by rw [hml]; rfl) e162 (hw _ (List.mem_of_getElem? (i := 51) rfl)) (hw _ (List.mem_of_getElem? (i := 52) rfl)) (hw _ (List.mem_of_getElem? (i := 53) rfl)) (hw _ (List.mem_of_getElem? (i := 54) rfl)) [.null] [] rfl (rm_umN hw _) (hb hby at_169) rfl (lenOf pd_16 rfl) (by decide) (by decide) (Nat.le_of_ble_eq_true rfl) (by decide) (by decide) ?_
        rintro v166 T166 h166 L166 X166 e166 ⟨rfl, N166, rfl⟩
        have N166a := Fr.app N162a N166
        show Ends p e below s _ _ _ T166 (mkF m 172 #[.val (.int i0), .val (.int i1), .val (.int i2), .val (.int i3), .val (.int kk), .val (.int z129_0), .val (.ref a130), .val (.ref a150), .val (.ref b162), .val .null, .val .null, .val .null] [.null])
        refine go (fun _ => XS.aload X166.here hx rfl (hb hby at_172) rfl rfl) ?_
        show Ends p e below s _ _ _ T166 (mkF m 174 #[.val (.int i0), .val (.int i1), .val (.int i2), .val (.int i3), .val (.int kk), .val (.int z129_0), .val (.ref a130), .val (.ref a150), .val (.ref b162), .val .null, .val .null, .val .null] [.null, .null])
        refine go (fun _ => XT.acmpNo X166.here hx rfl (hb hby at_174) rfl rfl rfl (XT.aa_ne_f (rfl : (.null : Value) = .null))) ?_
        show Ends p e below s _ _ _ T166 (mkF m 177 #[.val (.int i0), .val (.int i1), .val (.int i2), .val (.int i3), .val (.int kk), .val (.int z129_0), .val (.ref a130), .val (.ref a150), .val (.ref b162), .val .null, .val .null, .val .null] [])
        refine go (fun _ => XT.iconstV X166.here hx rfl (1 : Int32) (hb hby at_177) (by decide)) ?_
        show Ends p e below s _ _ _ T166 (mkF m 178 #[.val (.int i0), .val (.int i1), .val (.int i2), .val (.int i3), .val (.int kk), .val (.int z129_0), .val (.ref a130), .val (.ref a150), .val (.ref b162), .val .null, .val .null, .val .null] [(.int (1 : Int32))])
        refine go (fun _ => XS.goto X166.here hx rfl (pc0 := 178) (pc' := 182) rfl (hb hby at_178) (by decide) (by decide)) ?_
        show Ends p e below s _ _ _ T166 (mkF m 182 #[.val (.int i0), .val (.int i1), .val (.int i2), .val (.int i3), .val (.int kk), .val (.int z129_0), .val (.ref a130), .val (.ref a150), .val (.ref b162), .val .null, .val .null, .val .null] [(.int (1 : Int32))])
        exact endN X166 hx hlk hret (by simp) (hb hby at_182) e166 ⟨rfl, N166a⟩ (by decide) (by decide)
      · refine go (fun _ => XS.ifNo X162.here hx rfl (hb hby at_117) rfl (XT.i0_eq_f c117_165)) ?_
        show Ends p e below s _ _ _ T162 (mkF m 120 #[.val (.int i0), .val (.int i1), .val (.int i2), .val (.int i3), .val (.int kk), .val (.int z129_0), .val (.ref a130), .val (.ref a150), .val (.ref b162), .val .null, .unset, .unset] [])
        obtain ⟨T167, h167, X167, e167, E167, A167, D167, U167, s167⟩ := newO X162 hx hZ hown (hw _ (List.mem_of_getElem? (i := 55) rfl)) (hw _ (List.mem_of_getElem? (i := 56) rfl)) (hw _ (List.mem_of_getElem? (i := 53) rfl)) e162 (g := (mkF m 120 #[.val (.int i0), .val (.int i1), .val (.int i2), .val (.int i3), .val (.int kk), .val (.int z129_0), .val (.ref a130), .val (.ref a150), .val (.ref b162), .val .null, .unset, .unset] [])) rfl (hb hby at_120) (by decide) (by decide)
        have F168 := (Exa.keep (Exa.keep F151 K150) K162)
        have F169 := (Arv.keep (Arv.keep F153 K150 nin0) K162 nin0)
        have F170 := (Exa.keep E150 K162)
        have F171 := (Arv.keep (Arv.keep V144 K150 nin0) K162 nin0)
        have F172 := (Arv.keep V150 K162 nin0)
        obtain ⟨a167, g167⟩ : ∃ z : Addr, z = h162.size := ⟨_, rfl⟩
        have n173 : a130 ≠ a167 := fun q => absurd (F168.lt) (by rw [q, g167]; exact Nat.lt_irrefl _)
        have n174 : a132 ≠ a167 := fun q => absurd (F169.lt) (by rw [q, g167]; exact Nat.lt_irrefl _)
        have n175 : a150 ≠ a167 := fun q => absurd (F170.lt) (by rw [q, g167]; exact Nat.lt_irrefl _)
        have n176 : b144 ≠ a167 := fun q => absurd (F171.lt) (by rw [q, g167]; exact Nat.lt_irrefl _)
        have n177 : b150 ≠ a167 := fun q => absurd (F172.lt) (by rw [q, g167]; exact Nat.lt_irrefl _)
        have n178 : b162 ≠ a167 := fun q => absurd (E162.lt) (by rw [q, g167]; exact Nat.lt_irrefl _)
        have f167 : Z.heap.size ≤ a167 := by rw [g167]; exact (O163).1
        rw [← g167] at A167 D167 U167 s167
        have O179 : Ext Z.heap h167 := xx O163 E167
        refine go s167 ?_
        show Ends p e below s _ _ _ T167 (mkF m 123 #[.val (.int i0), .val (.int i1), .val (.int i2), .val (.int i3), .val (.int kk), .val (.int z129_0), .val (.ref a130), .val (.ref a150), .val (.ref b162), .val .null, .unset, .unset] [(.ref a167)])
        refine go (fun _ => XS.dup X167.here hx rfl (hb hby at_123) rfl rfl) ?_
        show Ends p e below s _ _ _ T167 (mkF m 124 #[.val (.int i0), .val (.int i1), .val (.int i2), .val (.int i3), .val (.int kk), .val (.int z129_0), .val (.ref a130), .val (.ref a150), .val (.ref b162), .val .null, .unset, .unset] [(.ref a167), (.ref a167)])
        refine go (fun _ => XS.aload X167.here hx rfl (hb hby at_124) rfl rfl) ?_
        show Ends p e below s _ _ _ T167 (mkF m 126 #[.val (.int i0), .val (.int i1), .val (.int i2), .val (.int i3), .val (.int kk), .val (.int z129_0), .val (.ref a130), .val (.ref a150), .val (.ref b162), .val .null, .unset, .unset] [(.ref a130), (.ref a167), (.ref a167)])
        refine go (fun _ => XS.aload X167.here hx rfl (hb hby at_126) rfl rfl) ?_
        show Ends p e below s _ _ _ T167 (mkF m 128 #[.val (.int i0), .val (.int i1), .val (.int i2), .val (.int i3), .val (.int kk), .val (.int z129_0), .val (.ref a130), .val (.ref a150), .val (.ref b162), .val .null, .unset, .unset] [.null, (.ref a130), (.ref a167), (.ref a167)])
        have F180 := (D167 (Or.inr (hw _ (List.mem_of_getElem? (i := 67) rfl))) (ty := (.object "java/lang/String")) (by decide))
        have F181 := (D167 (Or.inr (hw _ (List.mem_of_getElem? (i := 69) rfl))) (ty := (.object "java/lang/Object")) (by decide))
        have F182 := (Exa.ext E167 F168)
        refine cInit X167 hx hZ hown (by rw [hml]; rfl) e167 (hw _ (List.mem_of_getElem? (i := 57) rfl)) (hw _ (List.mem_of_getElem? (i := 58) rfl)) (hw _ (List.mem_of_getElem? (i := 53) rfl)) (hw _ (List.mem_of_getElem? (i := 59) rfl)) a167 [(.ref a130), .null] [(.ref a167)] rfl (rm_mv hw a167 a130 .null _ O179 f167 A167 F180 F181 rfl F182) (hb hby at_128) rfl (lenOf pd_21 rfl) rfl (by decide) (by decide) (Nat.le_of_ble_eq_true rfl) (by decide) (by decide) ?_
        rintro v183 T183 h183 L183 X183 e183 ⟨rfl, N183, K183, F183_0, F183_1⟩
        have N183a := Fr.app N162a N183
        have O184 : Ext Z.heap h183 := xk O179 K183 (allS f167 all0)
        show Ends p e below s _ _ _ T183 (mkF m 131 #[.val (.int i0), .val (.int i1), .val (.int i2), .val (.int i3), .val (.int kk), .val (.int z129_0), .val (.ref a130), .val (.ref a150), .val (.ref b162), .val .null, .unset, .unset] [(.ref a167)])
        refine go (fun _ => XS.goto X183.here hx rfl (pc0 := 131) (pc' := 136) rfl (hb hby at_131) (by decide) (by decide)) ?_
        show Ends p e below s _ _ _ T183 (mkF m 136 #[.val (.int i0), .val (.int i1), .val (.int i2), .val (.int i3), .val (.int kk), .val (.int z129_0), .val (.ref a130), .val (.ref a150), .val (.ref b162), .val .null, .unset, .unset] [(.ref a167)])
        refine go (fun _ => XS.astore X183.here hx rfl (hb hby at_136) rfl rfl (l' := #[.val (.int i0), .val (.int i1), .val (.int i2), .val (.int i3), .val (.int kk), .val (.int z129_0), .val (.ref a130), .val (.ref a150), .val (.ref b162), .val .null, .val (.ref a167), .unset]) rfl) ?_
        show Ends p e below s _ _ _ T183 (mkF m 138 #[.val (.int i0), .val (.int i1), .val (.int i2), .val (.int i3), .val (.int kk), .val (.int z129_0), .val (.ref a130), .val (.ref a150), .val (.ref b162), .val .null, .val (.ref a167), .unset] [])
        refine go (fun _ => XS.iload X183.here hx rfl (hb hby at_138) rfl) ?_
        show Ends p e below s _ _ _ T183 (mkF m 140 #[.val (.int i0), .val (.int i1), .val (.int i2), .val (.int i3), .val (.int kk), .val (.int z129_0), .val (.ref a130), .val (.ref a150), .val (.ref b162), .val .null, .val (.ref a167), .unset] [(.int z129_0)])
        refine go (fun _ => XS.ifNo X183.here hx rfl (hb hby at_140) rfl (XT.i0_eq_f c117_165)) ?_
        show Ends p e below s _ _ _ T183 (mkF m 143 #[.val (.int i0), .val (.int i1), .val (.int i2), .val (.int i3), .val (.int kk), .val (.int z129_0), .val (.ref a130), .val (.ref a150), .val (.ref b162), .val .null, .val (.ref a167), .unset] [])
        refine go (fun _ => XS.aload X183.here hx rfl (hb hby at_143) rfl rfl) ?_
        show Ends p e below s _ _ _ T183 (mkF m 145 #[.val (.int i0), .val (.int i1), .val (.int i2), .val (.int i3), .val (.int kk), .val (.int z129_0), .val (.ref a130), .val (.ref a150), .val (.ref b162), .val .null, .val (.ref a167), .unset] [.null])
        refine go (fun _ => XS.astore X183.here hx rfl (hb hby at_145) rfl rfl (l' := #[.val (.int i0), .val (.int i1), .val (.int i2), .val (.int i3), .val (.int kk), .val (.int z129_0), .val (.ref a130), .val (.ref a150), .val (.ref b162), .val .null, .val (.ref a167), .val .null]) rfl) ?_
        show Ends p e below s _ _ _ T183 (mkF m 147 #[.val (.int i0), .val (.int i1), .val (.int i2), .val (.int i3), .val (.int kk), .val (.int z129_0), .val (.ref a130), .val (.ref a150), .val (.ref b162), .val .null, .val (.ref a167), .val .null] [])
        refine go (fun _ => XS.goto X183.here hx rfl (pc0 := 147) (pc' := 167) rfl (hb hby at_147) (by decide) (by decide)) ?_
        show Ends p e below s _ _ _ T183 (mkF m 167 #[.val (.int i0), .val (.int i1), .val (.int i2), .val (.int i3), .val (.int kk), .val (.int z129_0), .val (.ref a130), .val (.ref a150), .val (.ref b162), .val .null, .val (.ref a167), .val .null] [])
        refine go (fun _ => XS.aload X183.here hx rfl (hb hby at_167) rfl rfl) ?_
        show Ends p e below s _ _ _ T183 (mkF m 169 #[.val (.int i0), .val (.int i1), .val (.int i2), .val (.int i3), .val (.int kk), .val (.int z129_0), .val (.ref a130), .val (.ref a150), .val (.ref b162), .val .null, .val (.ref a167), .val .null] [(.ref a167)])
        have F185 := (Exa.keep A167 K183)
        refine cStat X183 hx hZ hown (by rw [hml]; rfl) e183 (hw _ (List.mem_of_getElem? (i := 51) rfl)) (hw _ (List.mem_of_getElem? (i := 52) rfl)) (hw _ (List.mem_of_getElem? (i := 53) rfl)) (hw _ (List.mem_of_getElem? (i := 54) rfl)) [(.ref a167)] [] rfl (rm_umM hw a167 .null _ rfl F185 F183_1) (hb hby at_169) rfl (lenOf pd_16 rfl) (by decide) (by decide) (Nat.le_of_ble_eq_true rfl) (by decide) (by decide) ?_
        rintro v186 T186 h186 L186 X186 e186 ⟨rfl, N186, rfl⟩
        have N186a := Fr.app N183a N186
        show Ends p e below s _ _ _ T186 (mkF m 172 #[.val (.int i0), .val (.int i1), .val (.int i2), .val (.int i3), .val (.int kk), .val (.int z129_0), .val (.ref a130), .val (.ref a150), .val (.ref b162), .val .null, .val (.ref a167), .val .null] [.null])
        refine go (fun _ => XS.aload X186.here hx rfl (hb hby at_172) rfl rfl) ?_
        show Ends p e below s _ _ _ T186 (mkF m 174 #[.val (.int i0), .val (.int i1), .val (.int i2), .val (.int i3), .val (.int kk), .val (.int z129_0), .val (.ref a130), .val (.ref a150), .val (.ref b162), .val .null, .val (.ref a167), .val .null] [.null, .null])
        refine go (fun _ => XT.acmpNo X186.here hx rfl (hb hby at_174) rfl rfl rfl (XT.aa_ne_f (rfl : (.null : Value) = .null))) ?_
        show Ends p e below s _ _ _ T186 (mkF m 177 #[.val (.int i0), .val (.int i1), .val (.int i2), .val (.int i3), .val (.int kk), .val (.int z129_0), .val (.ref a130), .val (.ref a150), .val (.ref b162), .val .null, .val (.ref a167), .val .null] [])
        refine go (fun _ => XT.iconstV X186.here hx rfl (1 : Int32) (hb hby at_177) (by decide)) ?_
        show Ends p e below s _ _ _ T186 (mkF m 178 #[.val (.int i0), .val (.int i1), .val (.int i2), .val (.int i3), .val (.int kk), .val (.int z129_0), .val (.ref a130), .val (.ref a150), .val (.ref b162), .val .null, .val (.ref a167), .val .null] [(.int (1 : Int32))])
        refine go (fun _ => XS.goto X186.here hx rfl (pc0 := 178) (pc' := 182) rfl (hb hby at_178) (by decide) (by decide)) ?_
        show Ends p e below s _ _ _ T186 (mkF m 182 #[.val (.int i0), .val (.int i1), .val (.int i2), .val (.int i3), .val (.int kk), .val (.int z129_0), .val (.ref a130), .val (.ref a150), .val (.ref b162), .val .null, .val (.ref a167), .val .null] [(.int (1 : Int32))])
        exact endN X186 hx hlk hret (by simp) (hb hby at_182) e186 ⟨rfl, N186a⟩ (by decide) (by decide)
    · refine go (fun _ => XS.ifYes X162.here hx rfl (pc0 := 67) (pc' := 76) rfl (hb hby at_67) rfl (XT.i0_ne_t c67_164) (by decide) (by decide)) ?_
      show Ends p e below s _ _ _ T162 (mkF m 76 #[.val (.int i0), .val (.int i1), .val (.int i2), .val (.int i3), .val (.int kk), .val (.int z129_0), .val (.ref a130), .val (.ref a150), .val (.ref b162), .unset, .unset, .unset] [])
      refine go (fun _ => XS.iload X162.here hx rfl (hb hby at_76) rfl) ?_
      show Ends p e below s _ _ _ T162 (mkF m 78 #[.val (.int i0), .val (.int i1), .val (.int i2), .val (.int i3), .val (.int kk), .val (.int z129_0), .val (.ref a130), .val (.ref a150), .val (.ref b162), .unset, .unset, .unset] [(.int kk)])
      refine go (fun _ => XT.iconstV X162.here hx rfl (1 : Int32) (hb hby at_78) (by decide)) ?_
      show Ends p e below s _ _ _ T162 (mkF m 79 #[.val (.int i0), .val (.int i1), .val (.int i2), .val (.int i3), .val (.int kk), .val (.int z129_0), .val (.ref a130), .val (.ref a150), .val (.ref b162), .unset, .unset, .unset] [(.int (1 : Int32)), (.int kk)])
      by_cases c79_187 : kk = (1 : Int32)
      · refine go (fun _ => XS.icmpNo X162.here hx rfl (hb hby at_79) rfl (XT.ii_ne_f c79_187)) ?_
        show Ends p e below s _ _ _ T162 (mkF m 82 #[.val (.int i0), .val (.int i1), .val (.int i2), .val (.int i3), .val (.int kk), .val (.int z129_0), .val (.ref a130), .val (.ref a150), .val (.ref b162), .unset, .unset, .unset] [])
        refine go (fun _ => XS.aload X162.here hx rfl (hb hby at_82) rfl rfl) ?_
        show Ends p e below s _ _ _ T162 (mkF m 84 #[.val (.int i0), .val (.int i1), .val (.int i2), .val (.int i3), .val (.int kk), .val (.int z129_0), .val (.ref a130), .val (.ref a150), .val (.ref b162), .unset, .unset, .unset] [(.ref b162)])
        refine go (fun _ => XS.astore X162.here hx rfl (hb hby at_84) rfl rfl (l' := #[.val (.int i0), .val (.int i1), .val (.int i2), .val (.int i3), .val (.int kk), .val (.int z129_0), .val (.ref a130), .val (.ref a150), .val (.ref b162), .val (.ref b162), .unset, .unset]) rfl) ?_
        show Ends p e below s _ _ _ T162 (mkF m 86 #[.val (.int i0), .val (.int i1), .val (.int i2), .val (.int i3), .val (.int kk), .val (.int z129_0), .val (.ref a130), .val (.ref a150), .val (.ref b162), .val (.ref b162), .unset, .unset] [])
        refine go (fun _ => XS.goto X162.here hx rfl (pc0 := 86) (pc' := 115) rfl (hb hby at_86) (by decide) (by decide)) ?_
        show Ends p e below s _ _ _ T162 (mkF m 115 #[.val (.int i0), .val (.int i1), .val (.int i2), .val (.int i3), .val (.int kk), .val (.int z129_0), .val (.ref a130), .val (.ref a150), .val (.ref b162), .val (.ref b162), .unset, .unset] [])
        refine go (fun _ => XS.iload X162.here hx rfl (hb hby at_115) rfl) ?_
        show Ends p e below s _ _ _ T162 (mkF m 117 #[.val (.int i0), .val (.int i1), .val (.int i2), .val (.int i3), .val (.int kk), .val (.int z129_0), .val (.ref a130), .val (.ref a150), .val (.ref b162), .val (.ref b162), .unset, .unset] [(.int z129_0)])
        by_cases c117_188 : z129_0 = (0 : Int32)
        · refine go (fun _ => XS.ifYes X162.here hx rfl (pc0 := 117) (pc' := 134) rfl (hb hby at_117) rfl (XT.i0_eq_t c117_188) (by decide) (by decide)) ?_
          show Ends p e below s _ _ _ T162 (mkF m 134 #[.val (.int i0), .val (.int i1), .val (.int i2), .val (.int i3), .val (.int kk), .val (.int z129_0), .val (.ref a130), .val (.ref a150), .val (.ref b162), .val (.ref b162), .unset, .unset] [])
          refine go (fun _ => XS.aload X162.here hx rfl (hb hby at_134) rfl rfl) ?_
          show Ends p e below s _ _ _ T162 (mkF m 136 #[.val (.int i0), .val (.int i1), .val (.int i2), .val (.int i3), .val (.int kk), .val (.int z129_0), .val (.ref a130), .val (.ref a150), .val (.ref b162), .val (.ref b162), .unset, .unset] [(.ref b162)])
          refine go (fun _ => XS.astore X162.here hx rfl (hb hby at_136) rfl rfl (l' := #[.val (.int i0), .val (.int i1), .val (.int i2), .val (.int i3), .val (.int kk), .val (.int z129_0), .val (.ref a130), .val (.ref a150), .val (.ref b162), .val (.ref b162), .val (.ref b162), .unset]) rfl) ?_
          show Ends p e below s _ _ _ T162 (mkF m 138 #[.val (.int i0), .val (.int i1), .val (.int i2), .val (.int i3), .val (.int kk), .val (.int z129_0), .val (.ref a130), .val (.ref a150), .val (.ref b162), .val (.ref b162), .val (.ref b162), .unset] [])
          refine go (fun _ => XS.iload X162.here hx rfl (hb hby at_138) rfl) ?_
          show Ends p e below s _ _ _ T162 (mkF m 140 #[.val (.int i0), .val (.int i1), .val (.int i2), .val (.int i3), .val (.int kk), .val (.int z129_0), .val (.ref a130), .val (.ref a150), .val (.ref b162), .val (.ref b162), .val (.ref b162), .unset] [(.int z129_0)])
          refine go (fun _ => XS.ifYes X162.here hx rfl (pc0 := 140) (pc' := 150) rfl (hb hby at_140) rfl (XT.i0_eq_t c117_188) (by decide) (by decide)) ?_
          show Ends p e below s _ _ _ T162 (mkF m 150 #[.val (.int i0), .val (.int i1), .val (.int i2), .val (.int i3), .val (.int kk), .val (.int z129_0), .val (.ref a130), .val (.ref a150), .val (.ref b162), .val (.ref b162), .val (.ref b162), .unset] [])
          refine go (fun _ => XS.iload X162.here hx rfl (hb hby at_150) rfl) ?_
          show Ends p e below s _ _ _ T162 (mkF m 152 #[.val (.int i0), .val (.int i1), .val (.int i2), .val (.int i3), .val (.int kk), .val (.int z129_0), .val (.ref a130), .val (.ref a150), .val (.ref b162), .val (.ref b162), .val (.ref b162), .unset] [(.int kk)])
          refine go (fun _ => XT.iconstV X162.here hx rfl (3 : Int32) (hb hby at_152) (by decide)) ?_
          show Ends p e below s _ _ _ T162 (mkF m 153 #[.val (.int i0), .val (.int i1), .val (.int i2), .val (.int i3), .val (.int kk), .val (.int z129_0), .val (.ref a130), .val (.ref a150), .val (.ref b162), .val (.ref b162), .val (.ref b162), .unset] [(.int (3 : Int32)), (.int kk)])
          refine go (fun _ => XS.icmpYes X162.here hx rfl (pc0 := 153) (pc' := 163) rfl (hb hby at_153) rfl (XT.ii_ne_t ((by rw [c79_187]; decide) : ¬ (kk = (3 : Int32)))) (by decide) (by decide)) ?_
          show Ends p e below s _ _ _ T162 (mkF m 163 #[.val (.int i0), .val (.int i1), .val (.int i2), .val (.int i3), .val (.int kk), .val (.int z129_0), .val (.ref a130), .val (.ref a150), .val (.ref b162), .val (.ref b162), .val (.ref b162), .unset] [])
          refine go (fun _ => XS.aload X162.here hx rfl (hb hby at_163) rfl rfl) ?_
          show Ends p e below s _ _ _ T162 (mkF m 165 #[.val (.int i0), .val (.int i1), .val (.int i2), .val (.int i3), .val (.int kk), .val (.int z129_0), .val (.ref a130), .val (.ref a150), .val (.ref b162), .val (.ref b162), .val (.ref b162), .unset] [(.ref b162)])
          refine go (fun _ => XS.astore X162.here hx rfl (hb hby at_165) rfl rfl (l' := #[.val (.int i0), .val (.int i1), .val (.int i2), .val (.int i3), .val (.int kk), .val (.int z129_0), .val (.ref a130), .val (.ref a150), .val (.ref b162), .val (.ref b162), .val (.ref b162), .val (.ref b162)]) rfl) ?_
          show Ends p e below s _ _ _ T162 (mkF m 167 #[.val (.int i0), .val (.int i1), .val (.int i2), .val (.int i3), .val (.int kk), .val (.int z129_0), .val (.ref a130), .val (.ref a150), .val (.ref b162), .val (.ref b162), .val (.ref b162), .val (.ref b162)] [])
          refine go (fun _ => XS.aload X162.here hx rfl (hb hby at_167) rfl rfl) ?_
          show Ends p e below s _ _ _ T162 (mkF m 169 #[.val (.int i0), .val (.int i1), .val (.int i2), .val (.int i3), .val (.int kk), .val (.int z129_0), .val (.ref a130), .val (.ref a150), .val (.ref b162), .val (.ref b162), .val (.ref b162), .val (.ref b162)] [(.ref b162)])
          refine cStat X162 hx hZ hown (by rw [hml]; rfl) e162 (hw _ (List.mem_of_getElem? (i := 51) rfl)) (hw _ (List.mem_of_getElem? (i := 52) rfl)) (hw _ (List.mem_of_getElem? (i := 53) rfl)) (hw _ (List.mem_of_getElem? (i := 54) rfl)) [(.ref b162)] [] rfl (rm_umI hw b162 _ E162) (hb hby at_169) rfl (lenOf pd_16 rfl) (by decide) (by decide) (Nat.le_of_ble_eq_true rfl) (by decide) (by decide) ?_
          rintro v189 T189 h189 L189 X189 e189 ⟨rfl, N189, rfl⟩
          have N189a := Fr.app N162a N189
          show Ends p e below s _ _ _ T189 (mkF m 172 #[.val (.int i0), .val (.int i1), .val (.int i2), .val (.int i3), .val (.int kk), .val (.int z129_0), .val (.ref a130), .val (.ref a150), .val (.ref b162), .val (.ref b162), .val (.ref b162), .val (.ref b162)] [(.ref b162)])
          refine go (fun _ => XS.aload X189.here hx rfl (hb hby at_172) rfl rfl) ?_
          show Ends p e below s _ _ _ T189 (mkF m 174 #[.val (.int i0), .val (.int i1), .val (.int i2), .val (.int i3), .val (.int kk), .val (.int z129_0), .val (.ref a130), .val (.ref a150), .val (.ref b162), .val (.ref b162), .val (.ref b162), .val (.ref b162)] [(.ref b162), (.ref b162)])
          refine go (fun _ => XT.acmpNo X189.here hx rfl (hb hby at_174) rfl rfl rfl (XT.aa_ne_f (rfl : ((.ref b162) : Value) = (.ref b162)))) ?_
          show Ends p e below s _ _ _ T189 (mkF m 177 #[.val (.int i0), .val (.int i1), .val (.int i2), .val (.int i3), .val (.int kk), .val (.int z129_0), .val (.ref a130), .val (.ref a150), .val (.ref b162), .val (.ref b162), .val (.ref b162), .val (.ref b162)] [])
          refine go (fun _ => XT.iconstV X189.here hx rfl (1 : Int32) (hb hby at_177) (by decide)) ?_
          show Ends p e below s _ _ _ T189 (mkF m 178 #[.val (.int i0), .val (.int i1), .val (.int i2), .val (.int i3), .val (.int kk), .val (.int z129_0), .val (.ref a130), .val (.ref a150), .val (.ref b162), .val (.ref b162), .val (.ref b162), .val (.ref b162)] [(.int (1 : Int32))])
          refine go (fun _ => XS.goto X189.here hx rfl (pc0 := 178) (pc' := 182) rfl (hb hby at_178) (by decide) (by decide)) ?_
          show Ends p e below s _ _ _ T189 (mkF m 182 #[.val (.int i0), .val (.int i1), .val (.int i2), .val (.int i3), .val (.int kk), .val (.int z129_0), .val (.ref a130), .val (.ref a150), .val (.ref b162), .val (.ref b162), .val (.ref b162), .val (.ref b162)] [(.int (1 : Int32))])
          exact endN X189 hx hlk hret (by simp) (hb hby at_182) e189 ⟨rfl, N189a⟩ (by decide) (by decide)
        · refine go (fun _ => XS.ifNo X162.here hx rfl (hb hby at_117) rfl (XT.i0_eq_f c117_188)) ?_
          show Ends p e below s _ _ _ T162 (mkF m 120 #[.val (.int i0), .val (.int i1), .val (.int i2), .val (.int i3), .val (.int kk), .val (.int z129_0), .val (.ref a130), .val (.ref a150), .val (.ref b162), .val (.ref b162), .unset, .unset] [])
          obtain ⟨T190, h190, X190, e190, E190, A190, D190, U190, s190⟩ := newO X162 hx hZ hown (hw _ (List.mem_of_getElem? (i := 55) rfl)) (hw _ (List.mem_of_getElem? (i := 56) rfl)) (hw _ (List.mem_of_getElem? (i := 53) rfl)) e162 (g := (mkF m 120 #[.val (.int i0), .val (.int i1), .val (.int i2), .val (.int i3), .val (.int kk), .val (.int z129_0), .val (.ref a130), .val (.ref a150), .val (.ref b162), .val (.ref b162), .unset, .unset] [])) rfl (hb hby at_120) (by decide) (by decide)
          have F191 := (Exa.keep (Exa.keep F151 K150) K162)
          have F192 := (Arv.keep (Arv.keep F153 K150 nin0) K162 nin0)
          have F193 := (Exa.keep E150 K162)
          have F194 := (Arv.keep (Arv.keep V144 K150 nin0) K162 nin0)
          have F195 := (Arv.keep V150 K162 nin0)
          obtain ⟨a190, g190⟩ : ∃ z : Addr, z = h162.size := ⟨_, rfl⟩
          have n196 : a130 ≠ a190 := fun q => absurd (F191.lt) (by rw [q, g190]; exact Nat.lt_irrefl _)
          have n197 : a132 ≠ a190 := fun q => absurd (F192.lt) (by rw [q, g190]; exact Nat.lt_irrefl _)
          have n198 : a150 ≠ a190 := fun q => absurd (F193.lt) (by rw [q, g190]; exact Nat.lt_irrefl _)
          have n199 : b144 ≠ a190 := fun q => absurd (F194.lt) (by rw [q, g190]; exact Nat.lt_irrefl _)
          have n200 : b150 ≠ a190 := fun q => absurd (F195.lt) (by rw [q, g190]; exact Nat.lt_irrefl _)
          have n201 : b162 ≠ a190 := fun q => absurd (E162.lt) (by rw [q, g190]; exact Nat.lt_irrefl _)
          have f190 : Z.heap.size ≤ a190 := by rw [g190]; exact (O163).1
          rw [← g190] at A190 D190 U190 s190
          have O202 : Ext Z.heap h190 := xx O163 E190
          refine go s190 ?_
          show Ends p e below s _ _ _ T190 (mkF m 123 #[.val (.int i0), .val (.int i1), .val (.int i2), .val (.int i3), .val (.int kk), .val (.int z129_0), .val (.ref a130), .val (.ref a150), .val (.ref b162), .val (.ref b162), .unset, .unset] [(.ref a190)])
          refine go (fun _ => XS.dup X190.here hx rfl (hb hby at_123) rfl rfl) ?_
          show Ends p e below s _ _ _ T190 (mkF m 124 #[.val (.int i0), .val (.int i1), .val (.int i2), .val (.int i3), .val (.int kk), .val (.int z129_0), .val (.ref a130), .val (.ref a150), .val (.ref b162), .val (.ref b162), .unset, .unset] [(.ref a190), (.ref a190)])
          refine go (fun _ => XS.aload X190.here hx rfl (hb hby at_124) rfl rfl) ?_
          show Ends p e below s _ _ _ T190 (mkF m 126 #[.val (.int i0), .val (.int i1), .val (.int i2), .val (.int i3), .val (.int kk), .val (.int z129_0), .val (.ref a130), .val (.ref a150), .val (.ref b162), .val (.ref b162), .unset, .unset] [(.ref a130), (.ref a190), (.ref a190)])
          refine go (fun _ => XS.aload X190.here hx rfl (hb hby at_126) rfl rfl) ?_
          show Ends p e below s _ _ _ T190 (mkF m 128 #[.val (.int i0), .val (.int i1), .val (.int i2), .val (.int i3), .val (.int kk), .val (.int z129_0), .val (.ref a130), .val (.ref a150), .val (.ref b162), .val (.ref b162), .unset, .unset] [(.ref b162), (.ref a130), (.ref a190), (.ref a190)])
          have F203 := (D190 (Or.inr (hw _ (List.mem_of_getElem? (i := 67) rfl))) (ty := (.object "java/lang/String")) (by decide))
          have F204 := (D190 (Or.inr (hw _ (List.mem_of_getElem? (i := 69) rfl))) (ty := (.object "java/lang/Object")) (by decide))
          have F205 := (Exa.ext E190 F191)
          refine cInit X190 hx hZ hown (by rw [hml]; rfl) e190 (hw _ (List.mem_of_getElem? (i := 57) rfl)) (hw _ (List.mem_of_getElem? (i := 58) rfl)) (hw _ (List.mem_of_getElem? (i := 53) rfl)) (hw _ (List.mem_of_getElem? (i := 59) rfl)) a190 [(.ref a130), (.ref b162)] [(.ref a190)] rfl (rm_mv hw a190 a130 (.ref b162) _ O202 f190 A190 F203 F204 rfl F205) (hb hby at_128) rfl (lenOf pd_21 rfl) rfl (by decide) (by decide) (Nat.le_of_ble_eq_true rfl) (by decide) (by decide) ?_
          rintro v206 T206 h206 L206 X206 e206 ⟨rfl, N206, K206, F206_0, F206_1⟩
          have N206a := Fr.app N162a N206
          have O207 : Ext Z.heap h206 := xk O202 K206 (allS f190 all0)
          show Ends p e below s _ _ _ T206 (mkF m 131 #[.val (.int i0), .val (.int i1), .val (.int i2), .val (.int i3), .val (.int kk), .val (.int z129_0), .val (.ref a130), .val (.ref a150), .val (.ref b162), .val (.ref b162), .unset, .unset] [(.ref a190)])
          refine go (fun _ => XS.goto X206.here hx rfl (pc0 := 131) (pc' := 136) rfl (hb hby at_131) (by decide) (by decide)) ?_
          show Ends p e below s _ _ _ T206 (mkF m 136 #[.val (.int i0), .val (.int i1), .val (.int i2), .val (.int i3), .val (.int kk), .val (.int z129_0), .val (.ref a130), .val (.ref a150), .val (.ref b162), .val (.ref b162), .unset, .unset] [(.ref a190)])
          refine go (fun _ => XS.astore X206.here hx rfl (hb hby at_136) rfl rfl (l' := #[.val (.int i0), .val (.int i1), .val (.int i2), .val (.int i3), .val (.int kk), .val (.int z129_0), .val (.ref a130), .val (.ref a150), .val (.ref b162), .val (.ref b162), .val (.ref a190), .unset]) rfl) ?_
          show Ends p e below s _ _ _ T206 (mkF m 138 #[.val (.int i0), .val (.int i1), .val (.int i2), .val (.int i3), .val (.int kk), .val (.int z129_0), .val (.ref a130), .val (.ref a150), .val (.ref b162), .val (.ref b162), .val (.ref a190), .unset] [])
          refine go (fun _ => XS.iload X206.here hx rfl (hb hby at_138) rfl) ?_
          show Ends p e below s _ _ _ T206 (mkF m 140 #[.val (.int i0), .val (.int i1), .val (.int i2), .val (.int i3), .val (.int kk), .val (.int z129_0), .val (.ref a130), .val (.ref a150), .val (.ref b162), .val (.ref b162), .val (.ref a190), .unset] [(.int z129_0)])
          refine go (fun _ => XS.ifNo X206.here hx rfl (hb hby at_140) rfl (XT.i0_eq_f c117_188)) ?_
          show Ends p e below s _ _ _ T206 (mkF m 143 #[.val (.int i0), .val (.int i1), .val (.int i2), .val (.int i3), .val (.int kk), .val (.int z129_0), .val (.ref a130), .val (.ref a150), .val (.ref b162), .val (.ref b162), .val (.ref a190), .unset] [])
          refine go (fun _ => XS.aload X206.here hx rfl (hb hby at_143) rfl rfl) ?_
          show Ends p e below s _ _ _ T206 (mkF m 145 #[.val (.int i0), .val (.int i1), .val (.int i2), .val (.int i3), .val (.int kk), .val (.int z129_0), .val (.ref a130), .val (.ref a150), .val (.ref b162), .val (.ref b162), .val (.ref a190), .unset] [(.ref b162)])
          refine go (fun _ => XS.astore X206.here hx rfl (hb hby at_145) rfl rfl (l' := #[.val (.int i0), .val (.int i1), .val (.int i2), .val (.int i3), .val (.int kk), .val (.int z129_0), .val (.ref a130), .val (.ref a150), .val (.ref b162), .val (.ref b162), .val (.ref a190), .val (.ref b162)]) rfl) ?_
          show Ends p e below s _ _ _ T206 (mkF m 147 #[.val (.int i0), .val (.int i1), .val (.int i2), .val (.int i3), .val (.int kk), .val (.int z129_0), .val (.ref a130), .val (.ref a150), .val (.ref b162), .val (.ref b162), .val (.ref a190), .val (.ref b162)] [])
          refine go (fun _ => XS.goto X206.here hx rfl (pc0 := 147) (pc' := 167) rfl (hb hby at_147) (by decide) (by decide)) ?_
          show Ends p e below s _ _ _ T206 (mkF m 167 #[.val (.int i0), .val (.int i1), .val (.int i2), .val (.int i3), .val (.int kk), .val (.int z129_0), .val (.ref a130), .val (.ref a150), .val (.ref b162), .val (.ref b162), .val (.ref a190), .val (.ref b162)] [])
          refine go (fun _ => XS.aload X206.here hx rfl (hb hby at_167) rfl rfl) ?_
          show Ends p e below s _ _ _ T206 (mkF m 169 #[.val (.int i0), .val (.int i1), .val (.int i2), .val (.int i3), .val (.int kk), .val (.int z129_0), .val (.ref a130), .val (.ref a150), .val (.ref b162), .val (.ref b162), .val (.ref a190), .val (.ref b162)] [(.ref a190)])
          have F208 := (Exa.keep A190 K206)
          refine cStat X206 hx hZ hown (by rw [hml]; rfl) e206 (hw _ (List.mem_of_getElem? (i := 51) rfl)) (hw _ (List.mem_of_getElem? (i := 52) rfl)) (hw _ (List.mem_of_getElem? (i := 53) rfl)) (hw _ (List.mem_of_getElem? (i := 54) rfl)) [(.ref a190)] [] rfl (rm_umM hw a190 (.ref b162) _ rfl F208 F206_1) (hb hby at_169) rfl (lenOf pd_16 rfl) (by decide) (by decide) (Nat.le_of_ble_eq_true rfl) (by decide) (by decide) ?_
          rintro v209 T209 h209 L209 X209 e209 ⟨rfl, N209, rfl⟩
          have N209a := Fr.app N206a N209
          show Ends p e below s _ _ _ T209 (mkF m 172 #[.val (.int i0), .val (.int i1), .val (.int i2), .val (.int i3), .val (.int kk), .val (.int z129_0), .val (.ref a130), .val (.ref a150), .val (.ref b162), .val (.ref b162), .val (.ref a190), .val (.ref b162)] [(.ref b162)])
          refine go (fun _ => XS.aload X209.here hx rfl (hb hby at_172) rfl rfl) ?_
          show Ends p e below s _ _ _ T209 (mkF m 174 #[.val (.int i0), .val (.int i1), .val (.int i2), .val (.int i3), .val (.int kk), .val (.int z129_0), .val (.ref a130), .val (.ref a150), .val (.ref b162), .val (.ref b162), .val (.ref a190), .val (.ref b162)] [(.ref b162), (.ref b162)])
          refine go (fun _ => XT.acmpNo X209.here hx rfl (hb hby at_174) rfl rfl rfl (XT.aa_ne_f (rfl : ((.ref b162) : Value) = (.ref b162)))) ?_
          show Ends p e below s _ _ _ T209 (mkF m 177 #[.val (.int i0), .val (.int i1), .val (.int i2), .val (.int i3), .val (.int kk), .val (.int z129_0), .val (.ref a130), .val (.ref a150), .val (.ref b162), .val (.ref b162), .val (.ref a190), .val (.ref b162)] [])
          refine go (fun _ => XT.iconstV X209.here hx rfl (1 : Int32) (hb hby at_177) (by decide)) ?_
          show Ends p e below s _ _ _ T209 (mkF m 178 #[.val (.int i0), .val (.int i1), .val (.int i2), .val (.int i3), .val (.int kk), .val (.int z129_0), .val (.ref a130), .val (.ref a150), .val (.ref b162), .val (.ref b162), .val (.ref a190), .val (.ref b162)] [(.int (1 : Int32))])
          refine go (fun _ => XS.goto X209.here hx rfl (pc0 := 178) (pc' := 182) rfl (hb hby at_178) (by decide) (by decide)) ?_
          show Ends p e below s _ _ _ T209 (mkF m 182 #[.val (.int i0), .val (.int i1), .val (.int i2), .val (.int i3), .val (.int kk), .val (.int z129_0), .val (.ref a130), .val (.ref a150), .val (.ref b162), .val (.ref b162), .val (.ref a190), .val (.ref b162)] [(.int (1 : Int32))])
          exact endN X209 hx hlk hret (by simp) (hb hby at_182) e209 ⟨rfl, N209a⟩ (by decide) (by decide)
      · refine go (fun _ => XS.icmpYes X162.here hx rfl (pc0 := 79) (pc' := 89) rfl (hb hby at_79) rfl (XT.ii_ne_t c79_187) (by decide) (by decide)) ?_
        show Ends p e below s _ _ _ T162 (mkF m 89 #[.val (.int i0), .val (.int i1), .val (.int i2), .val (.int i3), .val (.int kk), .val (.int z129_0), .val (.ref a130), .val (.ref a150), .val (.ref b162), .unset, .unset, .unset] [])
        refine go (fun _ => XS.iload X162.here hx rfl (hb hby at_89) rfl) ?_
        show Ends p e below s _ _ _ T162 (mkF m 91 #[.val (.int i0), .val (.int i1), .val (.int i2), .val (.int i3), .val (.int kk), .val (.int z129_0), .val (.ref a130), .val (.ref a150), .val (.ref b162), .unset, .unset, .unset] [(.int kk)])
        refine go (fun _ => XT.iconstV X162.here hx rfl (2 : Int32) (hb hby at_91) (by decide)) ?_
        show Ends p e below s _ _ _ T162 (mkF m 92 #[.val (.int i0), .val (.int i1), .val (.int i2), .val (.int i3), .val (.int kk), .val (.int z129_0), .val (.ref a130), .val (.ref a150), .val (.ref b162), .unset, .unset, .unset] [(.int (2 : Int32)), (.int kk)])
        by_cases c92_210 : kk = (2 : Int32)
        · refine go (fun _ => XS.icmpNo X162.here hx rfl (hb hby at_92) rfl (XT.ii_ne_f c92_210)) ?_
          show Ends p e below s _ _ _ T162 (mkF m 95 #[.val (.int i0), .val (.int i1), .val (.int i2), .val (.int i3), .val (.int kk), .val (.int z129_0), .val (.ref a130), .val (.ref a150), .val (.ref b162), .unset, .unset, .unset] [])
          refine go (fun _ => XS.aload X162.here hx rfl (hb hby at_95) rfl rfl) ?_
          show Ends p e below s _ _ _ T162 (mkF m 97 #[.val (.int i0), .val (.int i1), .val (.int i2), .val (.int i3), .val (.int kk), .val (.int z129_0), .val (.ref a130), .val (.ref a150), .val (.ref b162), .unset, .unset, .unset] [(.ref a130)])
          refine go (fun _ => XS.astore X162.here hx rfl (hb hby at_97) rfl rfl (l' := #[.val (.int i0), .val (.int i1), .val (.int i2), .val (.int i3), .val (.int kk), .val (.int z129_0), .val (.ref a130), .val (.ref a150), .val (.ref b162), .val (.ref a130), .unset, .unset]) rfl) ?_
          show Ends p e below s _ _ _ T162 (mkF m 99 #[.val (.int i0), .val (.int i1), .val (.int i2), .val (.int i3), .val (.int kk), .val (.int z129_0), .val (.ref a130), .val (.ref a150), .val (.ref b162), .val (.ref a130), .unset, .unset] [])
          refine go (fun _ => XS.goto X162.here hx rfl (pc0 := 99) (pc' := 115) rfl (hb hby at_99) (by decide) (by decide)) ?_
          show Ends p e below s _ _ _ T162 (mkF m 115 #[.val (.int i0), .val (.int i1), .val (.int i2), .val (.int i3), .val (.int kk), .val (.int z129_0), .val (.ref a130), .val (.ref a150), .val (.ref b162), .val (.ref a130), .unset, .unset] [])
          refine go (fun _ => XS.iload X162.here hx rfl (hb hby at_115) rfl) ?_
          show Ends p e below s _ _ _ T162 (mkF m 117 #[.val (.int i0), .val (.int i1), .val (.int i2), .val (.int i3), .val (.int kk), .val (.int z129_0), .val (.ref a130), .val (.ref a150), .val (.ref b162), .val (.ref a130), .unset, .unset] [(.int z129_0)])
          by_cases c117_211 : z129_0 = (0 : Int32)
          · refine go (fun _ => XS.ifYes X162.here hx rfl (pc0 := 117) (pc' := 134) rfl (hb hby at_117) rfl (XT.i0_eq_t c117_211) (by decide) (by decide)) ?_
            show Ends p e below s _ _ _ T162 (mkF m 134 #[.val (.int i0), .val (.int i1), .val (.int i2), .val (.int i3), .val (.int kk), .val (.int z129_0), .val (.ref a130), .val (.ref a150), .val (.ref b162), .val (.ref a130), .unset, .unset] [])
            refine go (fun _ => XS.aload X162.here hx rfl (hb hby at_134) rfl rfl) ?_
            show Ends p e below s _ _ _ T162 (mkF m 136 #[.val (.int i0), .val (.int i1), .val (.int i2), .val (.int i3), .val (.int kk), .val (.int z129_0), .val (.ref a130), .val (.ref a150), .val (.ref b162), .val (.ref a130), .unset, .unset] [(.ref a130)])
            refine go (fun _ => XS.astore X162.here hx rfl (hb hby at_136) rfl rfl (l' := #[.val (.int i0), .val (.int i1), .val (.int i2), .val (.int i3), .val (.int kk), .val (.int z129_0), .val (.ref a130), .val (.ref a150), .val (.ref b162), .val (.ref a130), .val (.ref a130), .unset]) rfl) ?_
            show Ends p e below s _ _ _ T162 (mkF m 138 #[.val (.int i0), .val (.int i1), .val (.int i2), .val (.int i3), .val (.int kk), .val (.int z129_0), .val (.ref a130), .val (.ref a150), .val (.ref b162), .val (.ref a130), .val (.ref a130), .unset] [])
            refine go (fun _ => XS.iload X162.here hx rfl (hb hby at_138) rfl) ?_
            show Ends p e below s _ _ _ T162 (mkF m 140 #[.val (.int i0), .val (.int i1), .val (.int i2), .val (.int i3), .val (.int kk), .val (.int z129_0), .val (.ref a130), .val (.ref a150), .val (.ref b162), .val (.ref a130), .val (.ref a130), .unset] [(.int z129_0)])
            refine go (fun _ => XS.ifYes X162.here hx rfl (pc0 := 140) (pc' := 150) rfl (hb hby at_140) rfl (XT.i0_eq_t c117_211) (by decide) (by decide)) ?_
            show Ends p e below s _ _ _ T162 (mkF m 150 #[.val (.int i0), .val (.int i1), .val (.int i2), .val (.int i3), .val (.int kk), .val (.int z129_0), .val (.ref a130), .val (.ref a150), .val (.ref b162), .val (.ref a130), .val (.ref a130), .unset] [])
            refine go (fun _ => XS.iload X162.here hx rfl (hb hby at_150) rfl) ?_
            show Ends p e below s _ _ _ T162 (mkF m 152 #[.val (.int i0), .val (.int i1), .val (.int i2), .val (.int i3), .val (.int kk), .val (.int z129_0), .val (.ref a130), .val (.ref a150), .val (.ref b162), .val (.ref a130), .val (.ref a130), .unset] [(.int kk)])
            refine go (fun _ => XT.iconstV X162.here hx rfl (3 : Int32) (hb hby at_152) (by decide)) ?_
            show Ends p e below s _ _ _ T162 (mkF m 153 #[.val (.int i0), .val (.int i1), .val (.int i2), .val (.int i3), .val (.int kk), .val (.int z129_0), .val (.ref a130), .val (.ref a150), .val (.ref b162), .val (.ref a130), .val (.ref a130), .unset] [(.int (3 : Int32)), (.int kk)])
            refine go (fun _ => XS.icmpYes X162.here hx rfl (pc0 := 153) (pc' := 163) rfl (hb hby at_153) rfl (XT.ii_ne_t ((by rw [c92_210]; decide) : ¬ (kk = (3 : Int32)))) (by decide) (by decide)) ?_
            show Ends p e below s _ _ _ T162 (mkF m 163 #[.val (.int i0), .val (.int i1), .val (.int i2), .val (.int i3), .val (.int kk), .val (.int z129_0), .val (.ref a130), .val (.ref a150), .val (.ref b162), .val (.ref a130), .val (.ref a130), .unset] [])
            refine go (fun _ => XS.aload X162.here hx rfl (hb hby at_163) rfl rfl) ?_
            show Ends p e below s _ _ _ T162 (mkF m 165 #[.val (.int i0), .val (.int i1), .val (.int i2), .val (.int i3), .val (.int kk), .val (.int z129_0), .val (.ref a130), .val (.ref a150), .val (.ref b162), .val (.ref a130), .val (.ref a130), .unset] [(.ref a130)])
            refine go (fun _ => XS.astore X162.here hx rfl (hb hby at_165) rfl rfl (l' := #[.val (.int i0), .val (.int i1), .val (.int i2), .val (.int i3), .val (.int kk), .val (.int z129_0), .val (.ref a130), .val (.ref a150), .val (.ref b162), .val (.ref a130), .val (.ref a130), .val (.ref a130)]) rfl) ?_
            show Ends p e below s _ _ _ T162 (mkF m 167 #[.val (.int i0), .val (.int i1), .val (.int i2), .val (.int i3), .val (.int kk), .val (.int z129_0), .val (.ref a130), .val (.ref a150), .val (.ref b162), .val (.ref a130), .val (.ref a130), .val (.ref a130)] [])
            refine go (fun _ => XS.aload X162.here hx rfl (hb hby at_167) rfl rfl) ?_
            show Ends p e below s _ _ _ T162 (mkF m 169 #[.val (.int i0), .val (.int i1), .val (.int i2), .val (.int i3), .val (.int kk), .val (.int z129_0), .val (.ref a130), .val (.ref a150), .val (.ref b162), .val (.ref a130), .val (.ref a130), .val (.ref a130)] [(.ref a130)])
            have F212 := (Exa.keep (Exa.keep F151 K150) K162)
            refine cStat X162 hx hZ hown (by rw [hml]; rfl) e162 (hw _ (List.mem_of_getElem? (i := 51) rfl)) (hw _ (List.mem_of_getElem? (i := 52) rfl)) (hw _ (List.mem_of_getElem? (i := 53) rfl)) (hw _ (List.mem_of_getElem? (i := 54) rfl)) [(.ref a130)] [] rfl (rm_umS hw a130 _ F212) (hb hby at_169) rfl (lenOf pd_16 rfl) (by decide) (by decide) (Nat.le_of_ble_eq_true rfl) (by decide) (by decide) ?_
            rintro v213 T213 h213 L213 X213 e213 ⟨rfl, N213, rfl⟩
            have N213a := Fr.app N162a N213
            show Ends p e below s _ _ _ T213 (mkF m 172 #[.val (.int i0), .val (.int i1), .val (.int i2), .val (.int i3), .val (.int kk), .val (.int z129_0), .val (.ref a130), .val (.ref a150), .val (.ref b162), .val (.ref a130), .val (.ref a130), .val (.ref a130)] [(.ref a130)])
            refine go (fun _ => XS.aload X213.here hx rfl (hb hby at_172) rfl rfl) ?_
            show Ends p e below s _ _ _ T213 (mkF m 174 #[.val (.int i0), .val (.int i1), .val (.int i2), .val (.int i3), .val (.int kk), .val (.int z129_0), .val (.ref a130), .val (.ref a150), .val (.ref b162), .val (.ref a130), .val (.ref a130), .val (.ref a130)] [(.ref a130), (.ref a130)])
            refine go (fun _ => XT.acmpNo X213.here hx rfl (hb hby at_174) rfl rfl rfl (XT.aa_ne_f (rfl : ((.ref a130) : Value) = (.ref a130)))) ?_
            show Ends p e below s _ _ _ T213 (mkF m 177 #[.val (.int i0), .val (.int i1), .val (.int i2), .val (.int i3), .val (.int kk), .val (.int z129_0), .val (.ref a130), .val (.ref a150), .val (.ref b162), .val (.ref a130), .val (.ref a130), .val (.ref a130)] [])
            refine go (fun _ => XT.iconstV X213.here hx rfl (1 : Int32) (hb hby at_177) (by decide)) ?_
            show Ends p e below s _ _ _ T213 (mkF m 178 #[.val (.int i0), .val (.int i1), .val (.int i2), .val (.int i3), .val (.int kk), .val (.int z129_0), .val (.ref a130), .val (.ref a150), .val (.ref b162), .val (.ref a130), .val (.ref a130), .val (.ref a130)] [(.int (1 : Int32))])
            refine go (fun _ => XS.goto X213.here hx rfl (pc0 := 178) (pc' := 182) rfl (hb hby at_178) (by decide) (by decide)) ?_
            show Ends p e below s _ _ _ T213 (mkF m 182 #[.val (.int i0), .val (.int i1), .val (.int i2), .val (.int i3), .val (.int kk), .val (.int z129_0), .val (.ref a130), .val (.ref a150), .val (.ref b162), .val (.ref a130), .val (.ref a130), .val (.ref a130)] [(.int (1 : Int32))])
            exact endN X213 hx hlk hret (by simp) (hb hby at_182) e213 ⟨rfl, N213a⟩ (by decide) (by decide)
          · refine go (fun _ => XS.ifNo X162.here hx rfl (hb hby at_117) rfl (XT.i0_eq_f c117_211)) ?_
            show Ends p e below s _ _ _ T162 (mkF m 120 #[.val (.int i0), .val (.int i1), .val (.int i2), .val (.int i3), .val (.int kk), .val (.int z129_0), .val (.ref a130), .val (.ref a150), .val (.ref b162), .val (.ref a130), .unset, .unset] [])
            obtain ⟨T214, h214, X214, e214, E214, A214, D214, U214, s214⟩ := newO X162 hx hZ hown (hw _ (List.mem_of_getElem? (i := 55) rfl)) (hw _ (List.mem_of_getElem? (i := 56) rfl)) (hw _ (List.mem_of_getElem? (i := 53) rfl)) e162 (g := (mkF m 120 #[.val (.int i0), .val (.int i1), .val (.int i2), .val (.int i3), .val (.int kk), .val (.int z129_0), .val (.ref a130), .val (.ref a150), .val (.ref b162), .val (.ref a130), .unset, .unset] [])) rfl (hb hby at_120) (by decide) (by decide)
            have F215 := (Exa.keep (Exa.keep F151 K150) K162)
            have F216 := (Arv.keep (Arv.keep F153 K150 nin0) K162 nin0)
            have F217 := (Exa.keep E150 K162)
            have F218 := (Arv.keep (Arv.keep V144 K150 nin0) K162 nin0)
            have F219 := (Arv.keep V150 K162 nin0)
            obtain ⟨a214, g214⟩ : ∃ z : Addr, z = h162.size := ⟨_, rfl⟩
            have n220 : a130 ≠ a214 := fun q => absurd (F215.lt) (by rw [q, g214]; exact Nat.lt_irrefl _)
            have n221 : a132 ≠ a214 := fun q => absurd (F216.lt) (by rw [q, g214]; exact Nat.lt_irrefl _)
            have n222 : a150 ≠ a214 := fun q => absurd (F217.lt) (by rw [q, g214]; exact Nat.lt_irrefl _)
            have n223 : b144 ≠ a214 := fun q => absurd (F218.lt) (by rw [q, g214]; exact Nat.lt_irrefl _)
            have n224 : b150 ≠ a214 := fun q => absurd (F219.lt) (by rw [q, g214]; exact Nat.lt_irrefl _)
            have n225 : b162 ≠ a214 := fun q => absurd (E162.lt) (by rw [q, g214]; exact Nat.lt_irrefl _)
            have f214 : Z.heap.size ≤ a214 := by rw [g214]; exact (O163).1
            rw [← g214] at A214 D214 U214 s214
            have O226 : Ext Z.heap h214 := xx O163 E214
            refine go s214 ?_
            show Ends p e below s _ _ _ T214 (mkF m 123 #[.val (.int i0), .val (.int i1), .val (.int i2), .val (.int i3), .val (.int kk), .val (.int z129_0), .val (.ref a130), .val (.ref a150), .val (.ref b162), .val (.ref a130), .unset, .unset] [(.ref a214)])
            refine go (fun _ => XS.dup X214.here hx rfl (hb hby at_123) rfl rfl) ?_
            show Ends p e below s _ _ _ T214 (mkF m 124 #[.val (.int i0), .val (.int i1), .val (.int i2), .val (.int i3), .val (.int kk), .val (.int z129_0), .val (.ref a130), .val (.ref a150), .val (.ref b162), .val (.ref a130), .unset, .unset] [(.ref a214), (.ref a214)])
            refine go (fun _ => XS.aload X214.here hx rfl (hb hby at_124) rfl rfl) ?_
            show Ends p e below s _ _ _ T214 (mkF m 126 #[.val (.int i0), .val (.int i1), .val (.int i2), .val (.int i3), .val (.int kk), .val (.int z129_0), .val (.ref a130), .val (.ref a150), .val (.ref b162), .val (.ref a130), .unset, .unset] [(.ref a130), (.ref a214), (.ref a214)])
            refine go (fun _ => XS.aload X214.here hx rfl (hb hby at_126) rfl rfl) ?_
            show Ends p e below s _ _ _ T214 (mkF m 128 #[.val (.int i0), .val (.int i1), .val (.int i2), .val (.int i3), .val (.int kk), .val (.int z129_0), .val (.ref a130), .val (.ref a150), .val (.ref b162), .val (.ref a130), .unset, .unset] [(.ref a130), (.ref a130), (.ref a214), (.ref a214)])
            have F227 := (D214 (Or.inr (hw _ (List.mem_of_getElem? (i := 67) rfl))) (ty := (.object "java/lang/String")) (by decide))
            have F228 := (D214 (Or.inr (hw _ (List.mem_of_getElem? (i := 69) rfl))) (ty := (.object "java/lang/Object")) (by decide))
            have F229 := (Exa.ext E214 F215)
            refine cInit X214 hx hZ hown (by rw [hml]; rfl) e214 (hw _ (List.mem_of_getElem? (i := 57) rfl)) (hw _ (List.mem_of_getElem? (i := 58) rfl)) (hw _ (List.mem_of_getElem? (i := 53) rfl)) (hw _ (List.mem_of_getElem? (i := 59) rfl)) a214 [(.ref a130), (.ref a130)] [(.ref a214)] rfl (rm_mv hw a214 a130 (.ref a130) _ O226 f214 A214 F227 F228 rfl F229) (hb hby at_128) rfl (lenOf pd_21 rfl) rfl (by decide) (by decide) (Nat.le_of_ble_eq_true rfl) (by decide) (by decide) ?_
            rintro v230 T230 h230 L230 X230 e230 ⟨rfl, N230, K230, F230_0, F230_1⟩
            have N230a := Fr.app N162a N230
            have O231 : Ext Z.heap h230 := xk O226 K230 (allS f214 all0)
            show Ends p e below s _ _ _ T230 (mkF m 131 #[.val (.int i0), .val (.int i1), .val (.int i2), .val (.int i3), .val (.int kk), .val (.int z129_0), .val (.ref a130), .val (.ref a150), .val (.ref b162), .val (.ref a130), .unset, .unset] [(.ref a214)])
            refine go (fun _ => XS.goto X230.here hx rfl (pc0 := 131) (pc' := 136) rfl (hb hby at_131) (by decide) (by decide)) ?_
            show Ends p e below s _ _ _ T230 (mkF m 136 #[.val (.int i0), .val (.int i1), .val (.int i2), .val (.int i3), .val (.int kk), .val (.int z129_0), .val (.ref a130), .val (.ref a150), .val (.ref b162), .val (.ref a130), .unset, .unset] [(.ref a214)])
            refine go (fun _ => XS.astore X230.here hx rfl (hb hby at_136) rfl rfl (l' := #[.val (.int i0), .val (.int i1), .val (.int i2), .val (.int i3), .val (.int kk), .val (.int z129_0), .val (.ref a130), .val (.ref a150), .val (.ref b162), .val (.ref a130), .val (.ref a214), .unset]) rfl) ?_
            show Ends p e below s _ _ _ T230 (mkF m 138 #[.val (.int i0), .val (.int i1), .val (.int i2), .val (.int i3), .val (.int kk), .val (.int z129_0), .val (.ref a130), .val (.ref a150), .val (.ref b162), .val (.ref a130), .val (.ref a214), .unset] [])
            refine go (fun _ => XS.iload X230.here hx rfl (hb hby at_138) rfl) ?_
            show Ends p e below s _ _ _ T230 (mkF m 140 #[.val (.int i0), .val (.int i1), .val (.int i2), .val (.int i3), .val (.int kk), .val (.int z129_0), .val (.ref a130), .val (.ref a150), .val (.ref b162), .val (.ref a130), .val (.ref a214), .unset] [(.int z129_0)])
            refine go (fun _ => XS.ifNo X230.here hx rfl (hb hby at_140) rfl (XT.i0_eq_f c117_211)) ?_
            show Ends p e below s _ _ _ T230 (mkF m 143 #[.val (.int i0), .val (.int i1), .val (.int i2), .val (.int i3), .val (.int kk), .val (.int z129_0), .val (.ref a130), .val (.ref a150), .val (.ref b162), .val (.ref a130), .val (.ref a214), .unset] [])
            refine go (fun _ => XS.aload X230.here hx rfl (hb hby at_143) rfl rfl) ?_
            show Ends p e below s _ _ _ T230 (mkF m 145 #[.val (.int i0), .val (.int i1), .val (.int i2), .val (.int i3), .val (.int kk), .val (.int z129_0), .val (.ref a130), .val (.ref a150), .val (.ref b162), .val (.ref a130), .val (.ref a214), .unset] [(.ref a130)])
            refine go (fun _ => XS.astore X230.here hx rfl (hb hby at_145) rfl rfl (l' := #[.val (.int i0), .val (.int i1), .val (.int i2), .val (.int i3), .val (.int kk), .val (.int z129_0), .val (.ref a130), .val (.ref a150), .val (.ref b162), .val (.ref a130), .val (.ref a214), .val (.ref a130)]) rfl) ?_
            show Ends p e below s _ _ _ T230 (mkF m 147 #[.val (.int i0), .val (.int i1), .val (.int i2), .val (.int i3), .val (.int kk), .val (.int z129_0), .val (.ref a130), .val (.ref a150), .val (.ref b162), .val (.ref a130), .val (.ref a214), .val (.ref a130)] [])
            refine go (fun _ => XS.goto X230.here hx rfl (pc0 := 147) (pc' := 167) rfl (hb hby at_147) (by decide) (by decide)) ?_
            show Ends p e below s _ _ _ T230 (mkF m 167 #[.val (.int i0), .val (.int i1), .val (.int i2), .val (.int i3), .val (.int kk), .val (.int z129_0), .val (.ref a130), .val (.ref a150), .val (.ref b162), .val (.ref a130), .val (.ref a214), .val (.ref a130)] [])
            refine go (fun _ => XS.aload X230.here hx rfl (hb hby at_167) rfl rfl) ?_
            show Ends p e below s _ _ _ T230 (mkF m 169 #[.val (.int i0), .val (.int i1), .val (.int i2), .val (.int i3), .val (.int kk), .val (.int z129_0), .val (.ref a130), .val (.ref a150), .val (.ref b162), .val (.ref a130), .val (.ref a214), .val (.ref a130)] [(.ref a214)])
            have F232 := (Exa.keep A214 K230)
            refine cStat X230 hx hZ hown (by rw [hml]; rfl) e230 (hw _ (List.mem_of_getElem? (i := 51) rfl)) (hw _ (List.mem_of_getElem? (i := 52) rfl)) (hw _ (List.mem_of_getElem? (i := 53) rfl)) (hw _ (List.mem_of_getElem? (i := 54) rfl)) [(.ref a214)] [] rfl (rm_umM hw a214 (.ref a130) _ rfl F232 F230_1) (hb hby at_169) rfl (lenOf pd_16 rfl) (by decide) (by decide) (Nat.le_of_ble_eq_true rfl) (by decide) (by decide) ?_
            rintro v233 T233 h233 L233 X233 e233 ⟨rfl, N233, rfl⟩
            have N233a := Fr.app N230a N233
            show Ends p e below s _ _ _ T233 (mkF m 172 #[.val (.int i0), .val (.int i1), .val (.int i2), .val (.int i3), .val (.int kk), .val (.int z129_0), .val (.ref a130), .val (.ref a150), .val (.ref b162), .val (.ref a130), .val (.ref a214), .val (.ref a130)] [(.ref a130)])
            refine go (fun _ => XS.aload X233.here hx rfl (hb hby at_172) rfl rfl) ?_
            show Ends p e below s _ _ _ T233 (mkF m 174 #[.val (.int i0), .val (.int i1), .val (.int i2), .val (.int i3), .val (.int kk), .val (.int z129_0), .val (.ref a130), .val (.ref a150), .val (.ref b162), .val (.ref a130), .val (.ref a214), .val (.ref a130)] [(.ref a130), (.ref a130)])
            refine go (fun _ => XT.acmpNo X233.here hx rfl (hb hby at_174) rfl rfl rfl (XT.aa_ne_f (rfl : ((.ref a130) : Value) = (.ref a130)))) ?_
            show Ends p e below s _ _ _ T233 (mkF m 177 #[.val (.int i0), .val (.int i1), .val (.int i2), .val (.int i3), .val (.int kk), .val (.int z129_0), .val (.ref a130), .val (.ref a150), .val (.ref b162), .val (.ref a130), .val (.ref a214), .val (.ref a130)] [])
            refine go (fun _ => XT.iconstV X233.here hx rfl (1 : Int32) (hb hby at_177) (by decide)) ?_
            show Ends p e below s _ _ _ T233 (mkF m 178 #[.val (.int i0), .val (.int i1), .val (.int i2), .val (.int i3), .val (.int kk), .val (.int z129_0), .val (.ref a130), .val (.ref a150), .val (.ref b162), .val (.ref a130), .val (.ref a214), .val (.ref a130)] [(.int (1 : Int32))])
            refine go (fun _ => XS.goto X233.here hx rfl (pc0 := 178) (pc' := 182) rfl (hb hby at_178) (by decide) (by decide)) ?_
            show Ends p e below s _ _ _ T233 (mkF m 182 #[.val (.int i0), .val (.int i1), .val (.int i2), .val (.int i3), .val (.int kk), .val (.int z129_0), .val (.ref a130), .val (.ref a150), .val (.ref b162), .val (.ref a130), .val (.ref a214), .val (.ref a130)] [(.int (1 : Int32))])
            exact endN X233 hx hlk hret (by simp) (hb hby at_182) e233 ⟨rfl, N233a⟩ (by decide) (by decide)
        · refine go (fun _ => XS.icmpYes X162.here hx rfl (pc0 := 92) (pc' := 102) rfl (hb hby at_92) rfl (XT.ii_ne_t c92_210) (by decide) (by decide)) ?_
          show Ends p e below s _ _ _ T162 (mkF m 102 #[.val (.int i0), .val (.int i1), .val (.int i2), .val (.int i3), .val (.int kk), .val (.int z129_0), .val (.ref a130), .val (.ref a150), .val (.ref b162), .unset, .unset, .unset] [])
          obtain ⟨T234, h234, X234, e234, E234, A234, D234, U234, s234⟩ := newO X162 hx hZ hown (hw _ (List.mem_of_getElem? (i := 55) rfl)) (hw _ (List.mem_of_getElem? (i := 56) rfl)) (hw _ (List.mem_of_getElem? (i := 53) rfl)) e162 (g := (mkF m 102 #[.val (.int i0), .val (.int i1), .val (.int i2), .val (.int i3), .val (.int kk), .val (.int z129_0), .val (.ref a130), .val (.ref a150), .val (.ref b162), .unset, .unset, .unset] [])) rfl (hb hby at_102) (by decide) (by decide)
          have F235 := (Exa.keep (Exa.keep F151 K150) K162)
          have F236 := (Arv.keep (Arv.keep F153 K150 nin0) K162 nin0)
          have F237 := (Exa.keep E150 K162)
          have F238 := (Arv.keep (Arv.keep V144 K150 nin0) K162 nin0)
          have F239 := (Arv.keep V150 K162 nin0)
          obtain ⟨a234, g234⟩ : ∃ z : Addr, z = h162.size := ⟨_, rfl⟩
          have n240 : a130 ≠ a234 := fun q => absurd (F235.lt) (by rw [q, g234]; exact Nat.lt_irrefl _)
          have n241 : a132 ≠ a234 := fun q => absurd (F236.lt) (by rw [q, g234]; exact Nat.lt_irrefl _)
          have n242 : a150 ≠ a234 := fun q => absurd (F237.lt) (by rw [q, g234]; exact Nat.lt_irrefl _)
          have n243 : b144 ≠ a234 := fun q => absurd (F238.lt) (by rw [q, g234]; exact Nat.lt_irrefl _)
          have n244 : b150 ≠ a234 := fun q => absurd (F239.lt) (by rw [q, g234]; exact Nat.lt_irrefl _)
          have n245 : b162 ≠ a234 := fun q => absurd (E162.lt) (by rw [q, g234]; exact Nat.lt_irrefl _)
          have f234 : Z.heap.size ≤ a234 := by rw [g234]; exact (O163).1
          rw [← g234] at A234 D234 U234 s234
          have O246 : Ext Z.heap h234 := xx O163 E234
          refine go s234 ?_
          show Ends p e below s _ _ _ T234 (mkF m 105 #[.val (.int i0), .val (.int i1), .val (.int i2), .val (.int i3), .val (.int kk), .val (.int z129_0), .val (.ref a130), .val (.ref a150), .val (.ref b162), .unset, .unset, .unset] [(.ref a234)])
          refine go (fun _ => XS.dup X234.here hx rfl (hb hby at_105) rfl rfl) ?_
          show Ends p e below s _ _ _ T234 (mkF m 106 #[.val (.int i0), .val (.int i1), .val (.int i2), .val (.int i3), .val (.int kk), .val (.int z129_0), .val (.ref a130), .val (.ref a150), .val (.ref b162), .unset, .unset, .unset] [(.ref a234), (.ref a234)])
          refine go (fun _ => XS.aload X234.here hx rfl (hb hby at_106) rfl rfl) ?_
          show Ends p e below s _ _ _ T234 (mkF m 108 #[.val (.int i0), .val (.int i1), .val (.int i2), .val (.int i3), .val (.int kk), .val (.int z129_0), .val (.ref a130), .val (.ref a150), .val (.ref b162), .unset, .unset, .unset] [(.ref a150), (.ref a234), (.ref a234)])
          refine go (fun _ => XS.aload X234.here hx rfl (hb hby at_108) rfl rfl) ?_
          show Ends p e below s _ _ _ T234 (mkF m 110 #[.val (.int i0), .val (.int i1), .val (.int i2), .val (.int i3), .val (.int kk), .val (.int z129_0), .val (.ref a130), .val (.ref a150), .val (.ref b162), .unset, .unset, .unset] [(.ref b162), (.ref a150), (.ref a234), (.ref a234)])
          have F247 := (D234 (Or.inr (hw _ (List.mem_of_getElem? (i := 67) rfl))) (ty := (.object "java/lang/String")) (by decide))
          have F248 := (D234 (Or.inr (hw _ (List.mem_of_getElem? (i := 69) rfl))) (ty := (.object "java/lang/Object")) (by decide))
          have F249 := (Exa.ext E234 F237)
          refine cInit X234 hx hZ hown (by rw [hml]; rfl) e234 (hw _ (List.mem_of_getElem? (i := 57) rfl)) (hw _ (List.mem_of_getElem? (i := 58) rfl)) (hw _ (List.mem_of_getElem? (i := 53) rfl)) (hw _ (List.mem_of_getElem? (i := 59) rfl)) a234 [(.ref a150), (.ref b162)] [(.ref a234)] rfl (rm_mv hw a234 a150 (.ref b162) _ O246 f234 A234 F247 F248 rfl F249) (hb hby at_110) rfl (lenOf pd_21 rfl) rfl (by decide) (by decide) (Nat.le_of_ble_eq_true rfl) (by decide) (by decide) ?_
          rintro v250 T250 h250 L250 X250 e250 ⟨rfl, N250, K250, F250_0, F250_1⟩
          have N250a := Fr.app N162a N250
          have O251 : Ext Z.heap h250 := xk O246 K250 (allS f234 all0)
          show Ends p e below s _ _ _ T250 (mkF m 113 #[.val (.int i0), .val (.int i1), .val (.int i2), .val (.int i3), .val (.int kk), .val (.int z129_0), .val (.ref a130), .val (.ref a150), .val (.ref b162), .unset, .unset, .unset] [(.ref a234)])
          refine go (fun _ => XS.astore X250.here hx rfl (hb hby at_113) rfl rfl (l' := #[.val (.int i0), .val (.int i1), .val (.int i2), .val (.int i3), .val (.int kk), .val (.int z129_0), .val (.ref a130), .val (.ref a150), .val (.ref b162), .val (.ref a234), .unset, .unset]) rfl) ?_
          show Ends p e below s _ _ _ T250 (mkF m 115 #[.val (.int i0), .val (.int i1), .val (.int i2), .val (.int i3), .val (.int kk), .val (.int z129_0), .val (.ref a130), .val (.ref a150), .val (.ref b162), .val (.ref a234), .unset, .unset] [])
          refine go (fun _ => XS.iload X250.here hx rfl (hb hby at_115) rfl) ?_
          show Ends p e below s _ _ _ T250 (mkF m 117 #[.val (.int i0), .val (.int i1), .val (.int i2), .val (.int i3), .val (.int kk), .val (.int z129_0), .val (.ref a130), .val (.ref a150), .val (.ref b162), .val (.ref a234), .unset, .unset] [(.int z129_0)])
          by_cases c117_252 : z129_0 = (0 : Int32)
          · refine go (fun _ => XS.ifYes X250.here hx rfl (pc0 := 117) (pc' := 134) rfl (hb hby at_117) rfl (XT.i0_eq_t c117_252) (by decide) (by decide)) ?_
            show Ends p e below s _ _ _ T250 (mkF m 134 #[.val (.int i0), .val (.int i1), .val (.int i2), .val (.int i3), .val (.int kk), .val (.int z129_0), .val (.ref a130), .val (.ref a150), .val (.ref b162), .val (.ref a234), .unset, .unset] [])
            refine go (fun _ => XS.aload X250.here hx rfl (hb hby at_134) rfl rfl) ?_
            show Ends p e below s _ _ _ T250 (mkF m 136 #[.val (.int i0), .val (.int i1), .val (.int i2), .val (.int i3), .val (.int kk), .val (.int z129_0), .val (.ref a130), .val (.ref a150), .val (.ref b162), .val (.ref a234), .unset, .unset] [(.ref a234)])
            refine go (fun _ => XS.astore X250.here hx rfl (hb hby at_136) rfl rfl (l' := #[.val (.int i0), .val (.int i1), .val (.int i2), .val (.int i3), .val (.int kk), .val (.int z129_0), .val (.ref a130), .val (.ref a150), .val (.ref b162), .val (.ref a234), .val (.ref a234), .unset]) rfl) ?_
            show Ends p e below s _ _ _ T250 (mkF m 138 #[.val (.int i0), .val (.int i1), .val (.int i2), .val (.int i3), .val (.int kk), .val (.int z129_0), .val (.ref a130), .val (.ref a150), .val (.ref b162), .val (.ref a234), .val (.ref a234), .unset] [])
            refine go (fun _ => XS.iload X250.here hx rfl (hb hby at_138) rfl) ?_
            show Ends p e below s _ _ _ T250 (mkF m 140 #[.val (.int i0), .val (.int i1), .val (.int i2), .val (.int i3), .val (.int kk), .val (.int z129_0), .val (.ref a130), .val (.ref a150), .val (.ref b162), .val (.ref a234), .val (.ref a234), .unset] [(.int z129_0)])
            refine go (fun _ => XS.ifYes X250.here hx rfl (pc0 := 140) (pc' := 150) rfl (hb hby at_140) rfl (XT.i0_eq_t c117_252) (by decide) (by decide)) ?_
            show Ends p e below s _ _ _ T250 (mkF m 150 #[.val (.int i0), .val (.int i1), .val (.int i2), .val (.int i3), .val (.int kk), .val (.int z129_0), .val (.ref a130), .val (.ref a150), .val (.ref b162), .val (.ref a234), .val (.ref a234), .unset] [])
            refine go (fun _ => XS.iload X250.here hx rfl (hb hby at_150) rfl) ?_
            show Ends p e below s _ _ _ T250 (mkF m 152 #[.val (.int i0), .val (.int i1), .val (.int i2), .val (.int i3), .val (.int kk), .val (.int z129_0), .val (.ref a130), .val (.ref a150), .val (.ref b162), .val (.ref a234), .val (.ref a234), .unset] [(.int kk)])
            refine go (fun _ => XT.iconstV X250.here hx rfl (3 : Int32) (hb hby at_152) (by decide)) ?_
            show Ends p e below s _ _ _ T250 (mkF m 153 #[.val (.int i0), .val (.int i1), .val (.int i2), .val (.int i3), .val (.int kk), .val (.int z129_0), .val (.ref a130), .val (.ref a150), .val (.ref b162), .val (.ref a234), .val (.ref a234), .unset] [(.int (3 : Int32)), (.int kk)])
            have t253 := own_and3 hkk c67_164 c79_187 c92_210
            refine go (fun _ => XS.icmpNo X250.here hx rfl (hb hby at_153) rfl (XT.ii_ne_f t253)) ?_
            show Ends p e below s _ _ _ T250 (mkF m 156 #[.val (.int i0), .val (.int i1), .val (.int i2), .val (.int i3), .val (.int kk), .val (.int z129_0), .val (.ref a130), .val (.ref a150), .val (.ref b162), .val (.ref a234), .val (.ref a234), .unset] [])
            refine go (fun _ => XS.aload X250.here hx rfl (hb hby at_156) rfl rfl) ?_
            show Ends p e below s _ _ _ T250 (mkF m 158 #[.val (.int i0), .val (.int i1), .val (.int i2), .val (.int i3), .val (.int kk), .val (.int z129_0), .val (.ref a130), .val (.ref a150), .val (.ref b162), .val (.ref a234), .val (.ref a234), .unset] [(.ref b162)])
            refine go (fun _ => XS.astore X250.here hx rfl (hb hby at_158) rfl rfl (l' := #[.val (.int i0), .val (.int i1), .val (.int i2), .val (.int i3), .val (.int kk), .val (.int z129_0), .val (.ref a130), .val (.ref a150), .val (.ref b162), .val (.ref a234), .val (.ref a234), .val (.ref b162)]) rfl) ?_
            show Ends p e below s _ _ _ T250 (mkF m 160 #[.val (.int i0), .val (.int i1), .val (.int i2), .val (.int i3), .val (.int kk), .val (.int z129_0), .val (.ref a130), .val (.ref a150), .val (.ref b162), .val (.ref a234), .val (.ref a234), .val (.ref b162)] [])
            refine go (fun _ => XS.goto X250.here hx rfl (pc0 := 160) (pc' := 167) rfl (hb hby at_160) (by decide) (by decide)) ?_
            show Ends p e below s _ _ _ T250 (mkF m 167 #[.val (.int i0), .val (.int i1), .val (.int i2), .val (.int i3), .val (.int kk), .val (.int z129_0), .val (.ref a130), .val (.ref a150), .val (.ref b162), .val (.ref a234), .val (.ref a234), .val (.ref b162)] [])
            refine go (fun _ => XS.aload X250.here hx rfl (hb hby at_167) rfl rfl) ?_
            show Ends p e below s _ _ _ T250 (mkF m 169 #[.val (.int i0), .val (.int i1), .val (.int i2), .val (.int i3), .val (.int kk), .val (.int z129_0), .val (.ref a130), .val (.ref a150), .val (.ref b162), .val (.ref a234), .val (.ref a234), .val (.ref b162)] [(.ref a234)])
            have F254 := (Exa.keep A234 K250)
            refine cStat X250 hx hZ hown (by rw [hml]; rfl) e250 (hw _ (List.mem_of_getElem? (i := 51) rfl)) (hw _ (List.mem_of_getElem? (i := 52) rfl)) (hw _ (List.mem_of_getElem? (i := 53) rfl)) (hw _ (List.mem_of_getElem? (i := 54) rfl)) [(.ref a234)] [] rfl (rm_umM hw a234 (.ref b162) _ rfl F254 F250_1) (hb hby at_169) rfl (lenOf pd_16 rfl) (by decide) (by decide) (Nat.le_of_ble_eq_true rfl) (by decide) (by decide) ?_
            rintro v255 T255 h255 L255 X255 e255 ⟨rfl, N255, rfl⟩
            have N255a := Fr.app N250a N255
            show Ends p e below s _ _ _ T255 (mkF m 172 #[.val (.int i0), .val (.int i1), .val (.int i2), .val (.int i3), .val (.int kk), .val (.int z129_0), .val (.ref a130), .val (.ref a150), .val (.ref b162), .val (.ref a234), .val (.ref a234), .val (.ref b162)] [(.ref b162)])
            refine go (fun _ => XS.aload X255.here hx rfl (hb hby at_172) rfl rfl) ?_
            show Ends p e below s _ _ _ T255 (mkF m 174 #[.val (.int i0), .val (.int i1), .val (.int i2), .val (.int i3), .val (.int kk), .val (.int z129_0), .val (.ref a130), .val (.ref a150), .val (.ref b162), .val (.ref a234), .val (.ref a234), .val (.ref b162)] [(.ref b162), (.ref b162)])
            refine go (fun _ => XT.acmpNo X255.here hx rfl (hb hby at_174) rfl rfl rfl (XT.aa_ne_f (rfl : ((.ref b162) : Value) = (.ref b162)))) ?_
            show Ends p e below s _ _ _ T255 (mkF m 177 #[.val (.int i0), .val (.int i1), .val (.int i2), .val (.int i3), .val (.int kk), .val (.int z129_0), .val (.ref a130), .val (.ref a150), .val (.ref b162), .val (.ref a234), .val (.ref a234), .val (.ref b162)] [])
            refine go (fun _ => XT.iconstV X255.here hx rfl (1 : Int32) (hb hby at_177) (by decide)) ?_
            show Ends p e below s _ _ _ T255 (mkF m 178 #[.val (.int i0), .val (.int i1), .val (.int i2), .val (.int i3), .val (.int kk), .val (.int z129_0), .val (.ref a130), .val (.ref a150), .val (.ref b162), .val (.ref a234), .val (.ref a234), .val (.ref b162)] [(.int (1 : Int32))])
            refine go (fun _ => XS.goto X255.here hx rfl (pc0 := 178) (pc' := 182) rfl (hb hby at_178) (by decide) (by decide)) ?_
            show Ends p e below s _ _ _ T255 (mkF m 182 #[.val (.int i0), .val (.int i1), .val (.int i2), .val (.int i3), .val (.int kk), .val (.int z129_0), .val (.ref a130), .val (.ref a150), .val (.ref b162), .val (.ref a234), .val (.ref a234), .val (.ref b162)] [(.int (1 : Int32))])
            exact endN X255 hx hlk hret (by simp) (hb hby at_182) e255 ⟨rfl, N255a⟩ (by decide) (by decide)
          · refine go (fun _ => XS.ifNo X250.here hx rfl (hb hby at_117) rfl (XT.i0_eq_f c117_252)) ?_
            show Ends p e below s _ _ _ T250 (mkF m 120 #[.val (.int i0), .val (.int i1), .val (.int i2), .val (.int i3), .val (.int kk), .val (.int z129_0), .val (.ref a130), .val (.ref a150), .val (.ref b162), .val (.ref a234), .unset, .unset] [])
            obtain ⟨T256, h256, X256, e256, E256, A256, D256, U256, s256⟩ := newO X250 hx hZ hown (hw _ (List.mem_of_getElem? (i := 55) rfl)) (hw _ (List.mem_of_getElem? (i := 56) rfl)) (hw _ (List.mem_of_getElem? (i := 53) rfl)) e250 (g := (mkF m 120 #[.val (.int i0), .val (.int i1), .val (.int i2), .val (.int i3), .val (.int kk), .val (.int z129_0), .val (.ref a130), .val (.ref a150), .val (.ref b162), .val (.ref a234), .unset, .unset] [])) rfl (hb hby at_120) (by decide) (by decide)
            have F257 := (Exa.keep (Exa.ext E234 F235) K250)
            have F258 := (Arv.keep (Arv.ext F236 E234) K250 (ninS n241 nin0))
            have F259 := (Exa.keep F249 K250)
            have F260 := (Exa.keep A234 K250)
            have F261 := (Arv.keep (Arv.ext F238 E234) K250 (ninS n243 nin0))
            have F262 := (Arv.keep (Arv.ext F239 E234) K250 (ninS n244 nin0))
            have F263 := (Exa.keep (Exa.ext E234 E162) K250)
            obtain ⟨a256, g256⟩ : ∃ z : Addr, z = h250.size := ⟨_, rfl⟩
            have n264 : a130 ≠ a256 := fun q => absurd (F257.lt) (by rw [q, g256]; exact Nat.lt_irrefl _)
            have n265 : a132 ≠ a256 := fun q => absurd (F258.lt) (by rw [q, g256]; exact Nat.lt_irrefl _)
            have n266 : a150 ≠ a256 := fun q => absurd (F259.lt) (by rw [q, g256]; exact Nat.lt_irrefl _)
            have n267 : a234 ≠ a256 := fun q => absurd (F260.lt) (by rw [q, g256]; exact Nat.lt_irrefl _)
            have n268 : b144 ≠ a256 := fun q => absurd (F261.lt) (by rw [q, g256]; exact Nat.lt_irrefl _)
            have n269 : b150 ≠ a256 := fun q => absurd (F262.lt) (by rw [q, g256]; exact Nat.lt_irrefl _)
            have n270 : b162 ≠ a256 := fun q => absurd (F263.lt) (by rw [q, g256]; exact Nat.lt_irrefl _)
            have f256 : Z.heap.size ≤ a256 := by rw [g256]; exact (O251).1
            rw [← g256] at A256 D256 U256 s256
            have O271 : Ext Z.heap h256 := xx O251 E256
            refine go s256 ?_
            show Ends p e below s _ _ _ T256 (mkF m 123 #[.val (.int i0), .val (.int i1), .val (.int i2), .val (.int i3), .val (.int kk), .val (.int z129_0), .val (.ref a130), .val (.ref a150), .val (.ref b162), .val (.ref a234), .unset, .unset] [(.ref a256)])
            refine go (fun _ => XS.dup X256.here hx rfl (hb hby at_123) rfl rfl) ?_
            show Ends p e below s _ _ _ T256 (mkF m 124 #[.val (.int i0), .val (.int i1), .val (.int i2), .val (.int i3), .val (.int kk), .val (.int z129_0), .val (.ref a130), .val (.ref a150), .val (.ref b162), .val (.ref a234), .unset, .unset] [(.ref a256), (.ref a256)])
            refine go (fun _ => XS.aload X256.here hx rfl (hb hby at_124) rfl rfl) ?_
            show Ends p e below s _ _ _ T256 (mkF m 126 #[.val (.int i0), .val (.int i1), .val (.int i2), .val (.int i3), .val (.int kk), .val (.int z129_0), .val (.ref a130), .val (.ref a150), .val (.ref b162), .val (.ref a234), .unset, .unset] [(.ref a130), (.ref a256), (.ref a256)])
            refine go (fun _ => XS.aload X256.here hx rfl (hb hby at_126) rfl rfl) ?_
            show Ends p e below s _ _ _ T256 (mkF m 128 #[.val (.int i0), .val (.int i1), .val (.int i2), .val (.int i3), .val (.int kk), .val (.int z129_0), .val (.ref a130), .val (.ref a150), .val (.ref b162), .val (.ref a234), .unset, .unset] [(.ref a234), (.ref a130), (.ref a256), (.ref a256)])
            have F272 := (D256 (Or.inr (hw _ (List.mem_of_getElem? (i := 67) rfl))) (ty := (.object "java/lang/String")) (by decide))
            have F273 := (D256 (Or.inr (hw _ (List.mem_of_getElem? (i := 69) rfl))) (ty := (.object "java/lang/Object")) (by decide))
            have F274 := (Exa.ext E256 F257)
            refine cInit X256 hx hZ hown (by rw [hml]; rfl) e256 (hw _ (List.mem_of_getElem? (i := 57) rfl)) (hw _ (List.mem_of_getElem? (i := 58) rfl)) (hw _ (List.mem_of_getElem? (i := 53) rfl)) (hw _ (List.mem_of_getElem? (i := 59) rfl)) a256 [(.ref a130), (.ref a234)] [(.ref a256)] rfl (rm_mv hw a256 a130 (.ref a234) _ O271 f256 A256 F272 F273 rfl F274) (hb hby at_128) rfl (lenOf pd_21 rfl) rfl (by decide) (by decide) (Nat.le_of_ble_eq_true rfl) (by decide) (by decide) ?_
            rintro v275 T275 h275 L275 X275 e275 ⟨rfl, N275, K275, F275_0, F275_1⟩
            have N275a := Fr.app N250a N275
            have O276 : Ext Z.heap h275 := xk O271 K275 (allS f256 all0)
            show Ends p e below s _ _ _ T275 (mkF m 131 #[.val (.int i0), .val (.int i1), .val (.int i2), .val (.int i3), .val (.int kk), .val (.int z129_0), .val (.ref a130), .val (.ref a150), .val (.ref b162), .val (.ref a234), .unset, .unset] [(.ref a256)])
            refine go (fun _ => XS.goto X275.here hx rfl (pc0 := 131) (pc' := 136) rfl (hb hby at_131) (by decide) (by decide)) ?_
            show Ends p e below s _ _ _ T275 (mkF m 136 #[.val (.int i0), .val (.int i1), .val (.int i2), .val (.int i3), .val (.int kk), .val (.int z129_0), .val (.ref a130), .val (.ref a150), .val (.ref b162), .val (.ref a234), .unset, .unset] [(.ref a256)])
            refine go (fun _ => XS.astore X275.here hx rfl (hb hby at_136) rfl rfl (l' := #[.val (.int i0), .val (.int i1), .val (.int i2), .val (.int i3), .val (.int kk), .val (.int z129_0), .val (.ref a130), .val (.ref a150), .val (.ref b162), .val (.ref a234), .val (.ref a256), .unset]) rfl) ?_
            show Ends p e below s _ _ _ T275 (mkF m 138 #[.val (.int i0), .val (.int i1), .val (.int i2), .val (.int i3), .val (.int kk), .val (.int z129_0), .val (.ref a130), .val (.ref a150), .val (.ref b162), .val (.ref a234), .val (.ref a256), .unset] [])
            refine go (fun _ => XS.iload X275.here hx rfl (hb hby at_138) rfl) ?_
            show Ends p e below s _ _ _ T275 (mkF m 140 #[.val (.int i0), .val (.int i1), .val (.int i2), .val (.int i3), .val (.int kk), .val (.int z129_0), .val (.ref a130), .val (.ref a150), .val (.ref b162), .val (.ref a234), .val (.ref a256), .unset] [(.int z129_0)])
            refine go (fun _ => XS.ifNo X275.here hx rfl (hb hby at_140) rfl (XT.i0_eq_f c117_252)) ?_
            show Ends p e below s _ _ _ T275 (mkF m 143 #[.val (.int i0), .val (.int i1), .val (.int i2), .val (.int i3), .val (.int kk), .val (.int z129_0), .val (.ref a130), .val (.ref a150), .val (.ref b162), .val (.ref a234), .val (.ref a256), .unset] [])
            refine go (fun _ => XS.aload X275.here hx rfl (hb hby at_143) rfl rfl) ?_
            show Ends p e below s _ _ _ T275 (mkF m 145 #[.val (.int i0), .val (.int i1), .val (.int i2), .val (.int i3), .val (.int kk), .val (.int z129_0), .val (.ref a130), .val (.ref a150), .val (.ref b162), .val (.ref a234), .val (.ref a256), .unset] [(.ref a234)])
            refine go (fun _ => XS.astore X275.here hx rfl (hb hby at_145) rfl rfl (l' := #[.val (.int i0), .val (.int i1), .val (.int i2), .val (.int i3), .val (.int kk), .val (.int z129_0), .val (.ref a130), .val (.ref a150), .val (.ref b162), .val (.ref a234), .val (.ref a256), .val (.ref a234)]) rfl) ?_
            show Ends p e below s _ _ _ T275 (mkF m 147 #[.val (.int i0), .val (.int i1), .val (.int i2), .val (.int i3), .val (.int kk), .val (.int z129_0), .val (.ref a130), .val (.ref a150), .val (.ref b162), .val (.ref a234), .val (.ref a256), .val (.ref a234)] [])
            refine go (fun _ => XS.goto X275.here hx rfl (pc0 := 147) (pc' := 167) rfl (hb hby at_147) (by decide) (by decide)) ?_
            show Ends p e below s _ _ _ T275 (mkF m 167 #[.val (.int i0), .val (.int i1), .val (.int i2), .val (.int i3), .val (.int kk), .val (.int z129_0), .val (.ref a130), .val (.ref a150), .val (.ref b162), .val (.ref a234), .val (.ref a256), .val (.ref a234)] [])
            refine go (fun _ => XS.aload X275.here hx rfl (hb hby at_167) rfl rfl) ?_
            show Ends p e below s _ _ _ T275 (mkF m 169 #[.val (.int i0), .val (.int i1), .val (.int i2), .val (.int i3), .val (.int kk), .val (.int z129_0), .val (.ref a130), .val (.ref a150), .val (.ref b162), .val (.ref a234), .val (.ref a256), .val (.ref a234)] [(.ref a256)])
            have F277 := (Exa.keep A256 K275)
            refine cStat X275 hx hZ hown (by rw [hml]; rfl) e275 (hw _ (List.mem_of_getElem? (i := 51) rfl)) (hw _ (List.mem_of_getElem? (i := 52) rfl)) (hw _ (List.mem_of_getElem? (i := 53) rfl)) (hw _ (List.mem_of_getElem? (i := 54) rfl)) [(.ref a256)] [] rfl (rm_umM hw a256 (.ref a234) _ rfl F277 F275_1) (hb hby at_169) rfl (lenOf pd_16 rfl) (by decide) (by decide) (Nat.le_of_ble_eq_true rfl) (by decide) (by decide) ?_
            rintro v278 T278 h278 L278 X278 e278 ⟨rfl, N278, rfl⟩
            have N278a := Fr.app N275a N278
            show Ends p e below s _ _ _ T278 (mkF m 172 #[.val (.int i0), .val (.int i1), .val (.int i2), .val (.int i3), .val (.int kk), .val (.int z129_0), .val (.ref a130), .val (.ref a150), .val (.ref b162), .val (.ref a234), .val (.ref a256), .val (.ref a234)] [(.ref a234)])
            refine go (fun _ => XS.aload X278.here hx rfl (hb hby at_172) rfl rfl) ?_
            show Ends p e below s _ _ _ T278 (mkF m 174 #[.val (.int i0), .val (.int i1), .val (.int i2), .val (.int i3), .val (.int kk), .val (.int z129_0), .val (.ref a130), .val (.ref a150), .val (.ref b162), .val (.ref a234), .val (.ref a256), .val (.ref a234)] [(.ref a234), (.ref a234)])
            refine go (fun _ => XT.acmpNo X278.here hx rfl (hb hby at_174) rfl rfl rfl (XT.aa_ne_f (rfl : ((.ref a234) : Value) = (.ref a234)))) ?_
            show Ends p e below s _ _ _ T278 (mkF m 177 #[.val (.int i0), .val (.int i1), .val (.int i2), .val (.int i3), .val (.int kk), .val (.int z129_0), .val (.ref a130), .val (.ref a150), .val (.ref b162), .val (.ref a234), .val (.ref a256), .val (.ref a234)] [])
            refine go (fun _ => XT.iconstV X278.here hx rfl (1 : Int32) (hb hby at_177) (by decide)) ?_
            show Ends p e below s _ _ _ T278 (mkF m 178 #[.val (.int i0), .val (.int i1), .val (.int i2), .val (.int i3), .val (.int kk), .val (.int z129_0), .val (.ref a130), .val (.ref a150), .val (.ref b162), .val (.ref a234), .val (.ref a256), .val (.ref a234)] [(.int (1 : Int32))])
            refine go (fun _ => XS.goto X278.here hx rfl (pc0 := 178) (pc' := 182) rfl (hb hby at_178) (by decide) (by decide)) ?_
            show Ends p e below s _ _ _ T278 (mkF m 182 #[.val (.int i0), .val (.int i1), .val (.int i2), .val (.int i3), .val (.int kk), .val (.int z129_0), .val (.ref a130), .val (.ref a150), .val (.ref b162), .val (.ref a234), .val (.ref a256), .val (.ref a234)] [(.int (1 : Int32))])
            exact endN X278 hx hlk hret (by simp) (hb hby at_182) e278 ⟨rfl, N278a⟩ (by decide) (by decide)
  by_cases c8_279 : (i0 &&& (4 : Int32)) = (0 : Int32)
  · refine go (fun _ => XS.ifYes X0.here hx rfl (pc0 := 8) (pc' := 15) rfl (hb hby at_8) rfl (XT.i0_eq_t c8_279) (by decide) (by decide)) ?_
    show Ends p e below s _ _ _ T0 (mkF m 15 #[.val (.int i0), .val (.int i1), .val (.int i2), .val (.int i3), .val (.int kk), .unset, .unset, .unset, .unset, .unset, .unset, .unset] [])
    refine go (fun _ => XT.iconstV X0.here hx rfl (0 : Int32) (hb hby at_15) (by decide)) ?_
    show Ends p e below s _ _ _ T0 (mkF m 16 #[.val (.int i0), .val (.int i1), .val (.int i2), .val (.int i3), .val (.int kk), .unset, .unset, .unset, .unset, .unset, .unset, .unset] [(.int (0 : Int32))])
    exact J16 _
  · refine go (fun _ => XS.ifNo X0.here hx rfl (hb hby at_8) rfl (XT.i0_eq_f c8_279)) ?_
    show Ends p e below s _ _ _ T0 (mkF m 11 #[.val (.int i0), .val (.int i1), .val (.int i2), .val (.int i3), .val (.int kk), .unset, .unset, .unset, .unset, .unset, .unset, .unset] [])
    refine go (fun _ => XT.iconstV X0.here hx rfl (1 : Int32) (hb hby at_11) (by decide)) ?_
    show Ends p e below s _ _ _ T0 (mkF m 12 #[.val (.int i0), .val (.int i1), .val (.int i2), .val (.int i3), .val (.int kk), .unset, .unset, .unset, .unset, .unset, .unset, .unset] [(.int (1 : Int32))])
    refine go (fun _ => XS.goto X0.here hx rfl (pc0 := 12) (pc' := 16) rfl (hb hby at_12) (by decide) (by decide)) ?_
    show Ends p e below s _ _ _ T0 (mkF m 16 #[.val (.int i0), .val (.int i1), .val (.int i2), .val (.int i3), .val (.int kk), .unset, .unset, .unset, .unset, .unset, .unset, .unset] [(.int (1 : Int32))])
    exact J16 _
set_option maxRecDepth 65536 in
set_option maxHeartbeats 40000000 in
theorem comes_1 {Post : Tables → Env → Array Value → State → Outcome → State → Prop} (hpost : ∀ tb e args s v u, (limb_1_1.after args s (.returned v) u = true ∧ limb_1_2.after args s (.returned v) u = true ∧ True) → FrameEnd s (.returned v) u (Jvm.fieldLocs frame_1_writes args s ++ Jvm.arrayLocs frame_1_arrays args s ++ Jvm.staticLocs frame_1_statics s) 24 128 → Post tb e args s (.returned v) u) :
    ArmFor flags0 classFile x code maxLocals ret World_1 tables_1 room_1 Calls_1 rest_1 Pre_1 Post := by
  intro l hfl _ _ p e ha hc hk s m args below hf hA hF happ hP
  obtain ⟨hcalls, hrest, hpre⟩ := hP
  obtain ⟨-, -, -, hnamed, -, -, -, hat⟩ := (Spec.applies_iff hf).mp happ
  obtain ⟨hg, hn⟩ := and_e (Cond.before_iff.mp (show (Jvm.Cond.and given_1 narrow_1).before args s = true from hpre))
  obtain ⟨gv0, gvtr⟩ := and_e hg
  obtain ⟨gv1, gvtrr⟩ := and_e gvtr
  obtain ⟨gv2, gvtrrr⟩ := and_e gvtrr
  obtain ⟨gv3, gv4⟩ := and_e gvtrrr
  obtain ⟨w0, w1, w2, w3, rfl⟩ : ∃ w0 w1 w2 w3 : Value, args = #[w0, w1, w2, w3] := by
    have hs : args.size = 4 := by simpa [Cond.value, given_1] using gv0
    obtain ⟨L⟩ := args
    match L, hs with
    | [w0, w1, w2, w3], _ => exact ⟨w0, w1, w2, w3, rfl⟩
  have hw := fun d (hd : d ∈ tables_1) => atoms_spec (ws := Jvm.Cond.code x code maxLocals ret :: tables_1) hat d (List.mem_cons_of_mem _ hd)
  have hfit : Fit s := fun {y c} hc i hi => by
    obtain ⟨ha, rfl⟩ := Array.getElem?_eq_some_iff.mp hc
    have q := List.all_eq_true.mp ((Array.all_eq_true_iff_forall_mem.mp hF) _ (Array.getElem_mem ha)) i (List.mem_range.mpr hi)
    simpa [Array.getElem?_eq_getElem hi] using q
  obtain ⟨hsets, hown0⟩ := atoms_of _ (rest_1_c_eq ▸ (show rest_1_c.before _ s = true from hrest))
  obtain ⟨i0, ei0⟩ := is_v gv1
  obtain rfl : w0 = (.int i0) := Option.some.inj ei0
  obtain ⟨i1, ei1⟩ := is_v gv2
  obtain rfl : w1 = (.int i1) := Option.some.inj ei1
  obtain ⟨i2, ei2⟩ := is_v gv3
  obtain rfl : w2 = (.int i2) := Option.some.inj ei2
  obtain ⟨i3, ei3⟩ := is_v gv4
  obtain rfl : w3 = (.int i3) := Option.some.inj ei3
  obtain ⟨cz, evz⟩ := is_v (Cond.before_iff.mp (hsets _ (List.mem_of_getElem? (i := 1) rfl)))
  have SCS := Sta.start evz (Or.inl (hsets _ (List.mem_of_getElem? (i := 0) rfl)))
  have hcz : ¬ cz = (0 : Int32) := gotF (Cond.eq_ints evz (Term.int_eval (0 : Int32))) (not_v (Cond.before_iff.mp (hsets _ (List.mem_of_getElem? (i := 2) rfl))))
  have wI1 := Cond.before_iff.mp (hsets _ (List.mem_of_getElem? (i := 12) rfl))
  have SH := Sta.start (eqv_i (Term.int_eval (127 : Int32)) wI1) (Or.inl (hsets _ (List.mem_of_getElem? (i := 10) rfl)))
  have wI2 := Cond.before_iff.mp (hsets _ (List.mem_of_getElem? (i := 13) rfl))
  obtain ⟨aB, evB⟩ := arr_v wI2
  have SB := Sta.start evB (Or.inr ⟨(hw _ (List.mem_of_getElem? (i := 49) rfl)), (hsets _ (List.mem_of_getElem? (i := 11) rfl))⟩)
  obtain ⟨cB, AB⟩ := Arr.start evB wI2
  have wI3 := Cond.before_iff.mp (hsets _ (List.mem_of_getElem? (i := 15) rfl))
  have lB := own_len evB AB (eqv_i (Term.int_eval (256 : Int32)) wI3)
  have wI4 := Cond.before_iff.mp (hsets _ (List.mem_of_getElem? (i := 16) rfl))
  have BX : Bxs s aB cB "java/lang/Integer" "I" (256 : Int32) (fun j => .int (j - 128)) := Bxs.start (fun _ => evB) AB lB.1 lB.2 (by decide) wI4 (fun X j hj hq => eqv_i (own_idx hj) hq)
  obtain ⟨n, o, h1, h2, h3, _, L, rfl, ⟨rfl, N⟩, hq⟩ := (rm_law (l := l) hw i0 i1 i2 i3 aB cB s.heap ⟨Nat.le_refl _, fun _ _ q => q⟩ cz SCS hcz SH SB BX) tables_1 p e ha hc hk s m _ below hf ((Spec.applies_iff_loose hf).mp happ).1 ⟨rfl, State.Warmed39.refl s, rfl⟩ trivial
  refine ⟨n, _, h1, h2, h3, hpost _ _ _ _ _ _ ⟨Cond.after_iff.mpr rfl, Cond.after_iff.mpr (eq_i res_at (Term.int_eval (1)) rfl), trivial⟩ ⟨hq.1, hq.2.1, (hq.2.2.sift fun y hy => Or.inr (N y hy)).mono (by decide) (by decide)⟩⟩
theorem main_1_1 : Claimed_1_1 := comes_1 fun _ _ _ _ _ _ h hF => ⟨h.1, hF⟩
theorem main_1_2 : Claimed_1_2 := comes_1 fun _ _ _ _ _ _ h hF => ⟨h.2.1, hF⟩
end Jvm.Pilot.@@N@@
namespace Jvm.Pilot.@@N@@
open Jvm Jvm.ClassFile Sem Op Lib Jvm.Free Jvm.Stand Jvm.Pilot.@@N@@.Jvm.D
/-! MADE BY PROGRAM (witnessworld.py) out of the Statement's table words and the real class files: 25 classes; the members and pool entries that the words name. The judged class is class 1, her method 1. -/
namespace start1
open Jvm.ClassFile
def u (s : String) : CpInfo := .utf8 (stringToUtf16 s)
/-- a pool by its gaps: so many unusable entries, then the entry; so many at the end -/
def gap : Nat → List CpInfo → List CpInfo
  | 0, r => r
  | n + 1, r => .unusable :: gap n r
def poolList (es : List (Nat × CpInfo)) (last : Nat) : List CpInfo := es.foldr (fun e r => gap e.1 (e.2 :: r)) (gap last [])
def pool (es : List (Nat × CpInfo)) (last : Nat) : Array CpInfo := ⟨poolList es last⟩
def fileOf (pool : Array CpInfo) (this : Nat) (attrs : Array Attribute := #[]) (ms : Array MethodInfo := #[]) (fl : Nat := 33) (sup : Nat := 0) (ifs : Array Nat := #[]) (fds : Array FieldInfo := #[]) : ClassFile where
  minorVersion := 0
  majorVersion := 65
  constantPool := pool
  accessFlags := fl
  thisClass := this
  superClass := sup
  interfaces := ifs
  fields := fds
  methods := ms
  attributes := attrs
def plain (name : String) (sup : Option ClassId) : Class where
  name := name
  kind := .ordinary
  loader := none
  accessFlags := 33
  super := sup
  interfaces := #[]
  cf := none
  fields := #[]
  methods := #[]
  instanceTypes := #[]
  staticTypes := #[]
  resolved := #[]
  callSites := []
  init := .initialized
  statics := none
  mirror := none

def pool0 : Array CpInfo := pool [(5, u "<init>"), (0, u "()V"), (1, .class_ 10), (1, u "java/lang/Object")] 113

def k0c0 : Code := { maxStack := 0, maxLocals := 1, code := object_method_1_code, exceptionTable := #[], attributes := #[] }
def k0m0 : Method := { name := "<init>", desc := "()V", sig := { parameters := [], returnType := none }, accessFlags := 1, code := some k0c0 }
/-- java/lang/Object -/
def k0 : Class := { plain "java/lang/Object" none with
  accessFlags := 33
  interfaces := #[]
  cf := some (fileOf pool0 8 #[] #[{ accessFlags := 1, nameIndex := 5, descriptorIndex := 6, attributes := #[] }] 33 0 #[] #[])
  fields := #[]
  methods := #[k0m0]
  instanceTypes := #[]
  staticTypes := #[]
  resolved := Array.replicate 124 none
  statics := none }

def pool1 : Array CpInfo := pool [(2, .class_ 4), (1, u "java/lang/Object"), (0, u "<init>"), (0, u "()V"), (0, .class_ 8), (0, u "java/lang/String"), (0, .methodref 7 10), (0, .nameAndType 5 11), (0, u "([C)V"), (0, .methodref 7 13), (0, .nameAndType 14 15), (0, u "valueOf"), (0, u "(C)Ljava/lang/String;"), (0, .methodref 17 18), (0, .class_ 19), (0, .nameAndType 14 20), (0, u "java/lang/Integer"), (0, u "(I)Ljava/lang/Integer;"), (0, .class_ 22), (0, u "com/example/durable_state/durablestate/io/MarkedValue"), (0, .methodref 21 24), (0, .nameAndType 5 25), (0, u "(Ljava/lang/String;Ljava/lang/Object;)V"), (0, .methodref 21 27), (0, .nameAndType 28 29), (0, u "unmarked"), (0, u "(Ljava/lang/Object;)Ljava/lang/Object;"), (0, .class_ 31), (0, u "com/example/durable_state/durablestate/io/MarkedValueUnmarkedPinLaw"), (2, u "law"), (0, u "(IIII)Z")] 3

def k1m0 : Method := { name := "<init>", desc := "()V", sig := { parameters := [], returnType := none }, accessFlags := 1, code := none }
def k1c1 : Code := { maxStack := 7, maxLocals := 12, code := code, exceptionTable := #[], attributes := #[] }
def k1m1 : Method := { name := "law", desc := "(IIII)Z", sig := { parameters := [.int, .int, .int, .int], returnType := some .boolean }, accessFlags := 9, code := some k1c1 }
/-- com/example/durable_state/durablestate/io/MarkedValueUnmarkedPinLaw -/
def k1 : Class := { plain "com/example/durable_state/durablestate/io/MarkedValueUnmarkedPinLaw" (some 0) with
  accessFlags := 49
  interfaces := #[]
  cf := some (fileOf pool1 30 #[] #[{ accessFlags := 1, nameIndex := 5, descriptorIndex := 6, attributes := #[] }, { accessFlags := 9, nameIndex := 34, descriptorIndex := 35, attributes := #[] }] 49 2 #[] #[])
  fields := #[]
  methods := #[k1m0, k1m1]
  instanceTypes := #[]
  staticTypes := #[]
  resolved := Array.replicate 39 none
  statics := none }

def pool2 : Array CpInfo := pool [(1, .class_ 2), (0, u "java/io/Serializable"), (0, .class_ 4), (0, u "java/lang/Object")] 2

/-- java/io/Serializable -/
def k2 : Class := { plain "java/io/Serializable" (some 0) with
  accessFlags := 1537
  interfaces := #[]
  cf := some (fileOf pool2 1 #[] #[] 1537 3 #[] #[])
  fields := #[]
  methods := #[]
  instanceTypes := #[]
  staticTypes := #[]
  resolved := Array.replicate 7 none
  statics := none }

def pool3 : Array CpInfo := pool [(1, .class_ 2), (0, u "java/lang/Comparable"), (0, .class_ 4), (0, u "java/lang/Object")] 7

/-- java/lang/Comparable -/
def k3 : Class := { plain "java/lang/Comparable" (some 0) with
  accessFlags := 1537
  interfaces := #[]
  cf := some (fileOf pool3 1 #[] #[] 1537 3 #[] #[])
  fields := #[]
  methods := #[]
  instanceTypes := #[]
  staticTypes := #[]
  resolved := Array.replicate 12 none
  statics := none }

def pool4 : Array CpInfo := pool [(2, .class_ 4), (1, u "java/lang/CharSequence"), (42, .class_ 48), (0, u "java/lang/CharSequence$1CodePointIterator"), (10, .class_ 60), (0, u "java/lang/CharSequence$1CharIterator"), (5, .class_ 67), (0, u "java/lang/Object")] 63

/-- java/lang/CharSequence -/
def k4 : Class := { plain "java/lang/CharSequence" (some 0) with
  accessFlags := 1537
  interfaces := #[]
  cf := some (fileOf pool4 2 #[.nestMembers #[47, 59]] #[] 1537 66 #[] #[])
  fields := #[]
  methods := #[]
  instanceTypes := #[]
  staticTypes := #[]
  resolved := Array.replicate 131 none
  statics := none }

def pool5 : Array CpInfo := pool [(1, .class_ 2), (0, u "java/lang/constant/Constable"), (0, .class_ 4), (0, u "java/lang/Object")] 6

/-- java/lang/constant/Constable -/
def k5 : Class := { plain "java/lang/constant/Constable" (some 0) with
  accessFlags := 1537
  interfaces := #[]
  cf := some (fileOf pool5 1 #[] #[] 1537 3 #[] #[])
  fields := #[]
  methods := #[]
  instanceTypes := #[]
  staticTypes := #[]
  resolved := Array.replicate 11 none
  statics := none }

def pool6 : Array CpInfo := pool [(1, .class_ 2), (0, u "java/lang/constant/ConstantDesc"), (0, .class_ 4), (0, u "java/lang/Object")] 32

/-- java/lang/constant/ConstantDesc -/
def k6 : Class := { plain "java/lang/constant/ConstantDesc" (some 0) with
  accessFlags := 1537
  interfaces := #[]
  cf := some (fileOf pool6 1 #[] #[] 1537 3 #[] #[])
  fields := #[]
  methods := #[]
  instanceTypes := #[]
  staticTypes := #[]
  resolved := Array.replicate 37 none
  statics := none }

def pool7 : Array CpInfo := pool [(1, .methodref 2 3), (0, .class_ 4), (0, .nameAndType 5 6), (0, u "java/lang/Object"), (0, u "<init>"), (0, u "()V"), (2, .fieldref 10 11), (0, .class_ 12), (0, .nameAndType 13 14), (0, u "java/lang/String"), (0, u "value"), (0, u "[B"), (0, .fieldref 10 16), (0, .nameAndType 17 18), (0, u "coder"), (0, u "B"), (2, u "hash"), (0, u "I"), (2, u "hashIsZero"), (0, u "Z"), (0, .methodref 10 28), (0, .nameAndType 5 29), (0, u "([CIILjava/lang/Void;)V"), (8, .fieldref 10 39), (0, .nameAndType 40 26), (0, u "COMPACT_STRINGS"), (1, .class_ 44), (1, u "java/lang/StringUTF16"), (0, u "compress"), (1, .methodref 42 48), (0, .nameAndType 49 50), (0, u "coderFromArrayLen"), (0, u "([BI)B"), (2, u "toBytes"), (53, .class_ 109), (1, u "java/lang/StringLatin1"), (67, .methodref 42 178), (0, .nameAndType 45 179), (0, u "([CII)[B"), (29, .methodref 10 210), (0, .nameAndType 5 211), (0, u "([BB)V"), (157, u "(C)Z"), (205, .class_ 576), (0, u "java/lang/CharSequence"), (22, u "CASE_INSENSITIVE_ORDER"), (0, u "Ljava/util/Comparator;"), (181, u "valueOf"), (0, u "(C)Ljava/lang/String;"), (226, u "([C)V"), (4, .methodref 107 1016), (0, .nameAndType 1017 369), (0, u "canEncode"), (0, .methodref 107 1019), (0, .nameAndType 53 1020), (0, u "(C)[B"), (80, u "serialPersistentFields"), (0, u "[Ljava/io/ObjectStreamField;"), (0, .class_ 1104), (0, u "java/lang/String$CaseInsensitiveComparator"), (1, .class_ 1107), (0, u "java/io/Serializable"), (0, .class_ 1109), (0, u "java/lang/Comparable"), (0, .class_ 1111), (0, u "java/lang/constant/Constable"), (0, .class_ 1113), (0, u "java/lang/constant/ConstantDesc"), (2, u "serialVersionUID"), (0, u "J"), (3, u "REPL"), (0, u "C"), (2, u "LATIN1"), (1, u "UTF16")] 323

def k7m0 : Method := { name := "<init>", desc := "()V", sig := { parameters := [], returnType := none }, accessFlags := 1, code := none }
def k7c1 : Code := { maxStack := 5, maxLocals := 2, code := jdk_42_method_3_code, exceptionTable := #[], attributes := #[] }
def k7m1 : Method := { name := "<init>", desc := "([C)V", sig := { parameters := [(.array .char)], returnType := none }, accessFlags := 1, code := some k7c1 }
def k7c2 : Code := { maxStack := 4, maxLocals := 1, code := jdk_42_method_139_code, exceptionTable := #[], attributes := #[] }
def k7m2 : Method := { name := "valueOf", desc := "(C)Ljava/lang/String;", sig := { parameters := [.char], returnType := some (.object "java/lang/String") }, accessFlags := 9, code := some k7c2 }
def k7c3 : Code := { maxStack := 4, maxLocals := 6, code := jdk_42_method_149_code, exceptionTable := #[], attributes := #[] }
def k7m3 : Method := { name := "<init>", desc := "([CIILjava/lang/Void;)V", sig := { parameters := [(.array .char), .int, .int, (.object "java/lang/Void")], returnType := none }, accessFlags := 2, code := some k7c3 }
def k7c4 : Code := { maxStack := 2, maxLocals := 3, code := jdk_42_method_151_code, exceptionTable := #[], attributes := #[] }
def k7m4 : Method := { name := "<init>", desc := "([BB)V", sig := { parameters := [(.array .byte), .byte], returnType := none }, accessFlags := 0, code := some k7c4 }
/-- java/lang/String -/
def k7 : Class := { plain "java/lang/String" (some 0) with
  accessFlags := 49
  interfaces := #[2, 3, 4, 5, 6]
  cf := some (fileOf pool7 10 #[.nestMembers #[1103]] #[{ accessFlags := 1, nameIndex := 5, descriptorIndex := 6, attributes := #[] }, { accessFlags := 1, nameIndex := 5, descriptorIndex := 1010, attributes := #[] }, { accessFlags := 9, nameIndex := 782, descriptorIndex := 783, attributes := #[] }, { accessFlags := 2, nameIndex := 5, descriptorIndex := 29, attributes := #[] }, { accessFlags := 0, nameIndex := 5, descriptorIndex := 211, attributes := #[] }] 49 2 #[1106, 1108, 575, 1110, 1112] #[{ accessFlags := 18, nameIndex := 13, descriptorIndex := 14, attributes := #[] }, { accessFlags := 18, nameIndex := 17, descriptorIndex := 18, attributes := #[] }, { accessFlags := 2, nameIndex := 21, descriptorIndex := 22, attributes := #[] }, { accessFlags := 2, nameIndex := 25, descriptorIndex := 26, attributes := #[] }, { accessFlags := 26, nameIndex := 1116, descriptorIndex := 1117, attributes := #[] }, { accessFlags := 24, nameIndex := 40, descriptorIndex := 26, attributes := #[] }, { accessFlags := 26, nameIndex := 1101, descriptorIndex := 1102, attributes := #[] }, { accessFlags := 26, nameIndex := 1121, descriptorIndex := 1122, attributes := #[] }, { accessFlags := 25, nameIndex := 599, descriptorIndex := 600, attributes := #[] }, { accessFlags := 24, nameIndex := 1125, descriptorIndex := 18, attributes := #[] }, { accessFlags := 24, nameIndex := 1127, descriptorIndex := 18, attributes := #[] }])
  fields := #[{ name := "value", type := (.array .byte), accessFlags := 18, slot := 0, constantValue := 0 }, { name := "coder", type := .byte, accessFlags := 18, slot := 1, constantValue := 0 }, { name := "hash", type := .int, accessFlags := 2, slot := 2, constantValue := 0 }, { name := "hashIsZero", type := .boolean, accessFlags := 2, slot := 3, constantValue := 0 }, { name := "serialVersionUID", type := .long, accessFlags := 26, slot := 0, constantValue := 0 }, { name := "COMPACT_STRINGS", type := .boolean, accessFlags := 24, slot := 1, constantValue := 0 }, { name := "serialPersistentFields", type := (.array (.object "java/io/ObjectStreamField")), accessFlags := 26, slot := 2, constantValue := 0 }, { name := "REPL", type := .char, accessFlags := 26, slot := 3, constantValue := 0 }, { name := "CASE_INSENSITIVE_ORDER", type := (.object "java/util/Comparator"), accessFlags := 25, slot := 4, constantValue := 0 }, { name := "LATIN1", type := .byte, accessFlags := 24, slot := 5, constantValue := 0 }, { name := "UTF16", type := .byte, accessFlags := 24, slot := 6, constantValue := 0 }]
  methods := #[k7m0, k7m1, k7m2, k7m3, k7m4]
  instanceTypes := #[(.array .byte), .byte, .int, .boolean]
  staticTypes := #[.long, .boolean, (.array (.object "java/io/ObjectStreamField")), .char, (.object "java/util/Comparator"), .byte, .byte]
  resolved := Array.replicate 1451 none
  statics := some 0 }

def pool8 : Array CpInfo := pool [(6, .class_ 8), (1, u "java/lang/Object"), (0, u "<init>"), (0, u "()V"), (1, .class_ 14), (1, u "java/lang/StringUTF16"), (31, u "$assertionsDisabled"), (0, u "Z"), (13, u "HI_BYTE_SHIFT"), (0, u "I"), (2, u "LO_BYTE_SHIFT"), (49, .methodref 12 116), (0, .nameAndType 117 118), (0, u "compress"), (0, u "([CI[BII)I"), (3, u "([CII)[B"), (138, u "coderFromArrayLen"), (0, u "([BI)B"), (106, .class_ 371), (1, u "java/lang/StringUTF16$LinesSpliterator"), (58, u "MAX_LENGTH"), (196, .class_ 628), (0, u "java/lang/StringUTF16$CodePointsSpliterator"), (0, .class_ 630), (0, u "java/lang/StringUTF16$CharsSpliterator")] 4

def k8m0 : Method := { name := "<init>", desc := "()V", sig := { parameters := [], returnType := none }, accessFlags := 0, code := none }
def k8c1 : Code := { maxStack := 2, maxLocals := 2, code := jdk_52_method_15_code, exceptionTable := #[], attributes := #[] }
def k8m1 : Method := { name := "coderFromArrayLen", desc := "([BI)B", sig := { parameters := [(.array .byte), .int], returnType := some .byte }, accessFlags := 8, code := some k8c1 }
def k8c2 : Code := { maxStack := 5, maxLocals := 6, code := jdk_52_method_16_code, exceptionTable := #[], attributes := #[] }
def k8m2 : Method := { name := "compress", desc := "([CII)[B", sig := { parameters := [(.array .char), .int, .int], returnType := some (.array .byte) }, accessFlags := 9, code := some k8c2 }
def k8c3 : Code := { maxStack := 3, maxLocals := 7, code := jdk_52_method_21_code, exceptionTable := #[], attributes := #[] }
def k8m3 : Method := { name := "compress", desc := "([CI[BII)I", sig := { parameters := [(.array .char), .int, (.array .byte), .int, .int], returnType := some .int }, accessFlags := 9, code := some k8c3 }
/-- java/lang/StringUTF16 -/
def k8 : Class := { plain "java/lang/StringUTF16" (some 0) with
  accessFlags := 48
  interfaces := #[]
  cf := some (fileOf pool8 12 #[.nestMembers #[627, 629, 369]] #[{ accessFlags := 0, nameIndex := 9, descriptorIndex := 10, attributes := #[] }, { accessFlags := 8, nameIndex := 261, descriptorIndex := 262, attributes := #[] }, { accessFlags := 9, nameIndex := 117, descriptorIndex := 122, attributes := #[] }, { accessFlags := 9, nameIndex := 117, descriptorIndex := 118, attributes := #[] }] 48 6 #[] #[{ accessFlags := 26, nameIndex := 61, descriptorIndex := 62, attributes := #[] }, { accessFlags := 26, nameIndex := 65, descriptorIndex := 62, attributes := #[] }, { accessFlags := 24, nameIndex := 430, descriptorIndex := 62, attributes := #[] }, { accessFlags := 4120, nameIndex := 46, descriptorIndex := 47, attributes := #[] }])
  fields := #[{ name := "HI_BYTE_SHIFT", type := .int, accessFlags := 26, slot := 0, constantValue := 0 }, { name := "LO_BYTE_SHIFT", type := .int, accessFlags := 26, slot := 1, constantValue := 0 }, { name := "MAX_LENGTH", type := .int, accessFlags := 24, slot := 2, constantValue := 0 }, { name := "$assertionsDisabled", type := .boolean, accessFlags := 4120, slot := 3, constantValue := 0 }]
  methods := #[k8m0, k8m1, k8m2, k8m3]
  instanceTypes := #[]
  staticTypes := #[.int, .int, .int, .boolean]
  resolved := Array.replicate 635 none
  statics := none }

def pool9 : Array CpInfo := pool [(4, .class_ 6), (1, u "java/lang/Object"), (0, u "<init>"), (0, u "()V"), (5, .class_ 16), (1, u "java/lang/StringLatin1"), (73, u "canEncode"), (14, u "(C)Z"), (15, u "$assertionsDisabled"), (0, u "Z"), (98, .class_ 223), (1, u "java/lang/StringLatin1$LinesSpliterator"), (156, u "toBytes"), (1, u "(C)[B"), (7, .class_ 391), (0, u "java/lang/StringLatin1$CharsSpliterator")] 3

def k9m0 : Method := { name := "<init>", desc := "()V", sig := { parameters := [], returnType := none }, accessFlags := 0, code := none }
def k9c1 : Code := { maxStack := 2, maxLocals := 1, code := jdk_43_method_3_code, exceptionTable := #[], attributes := #[] }
def k9m1 : Method := { name := "canEncode", desc := "(C)Z", sig := { parameters := [.char], returnType := some .boolean }, accessFlags := 9, code := some k9c1 }
def k9c2 : Code := { maxStack := 4, maxLocals := 1, code := jdk_43_method_46_code, exceptionTable := #[], attributes := #[] }
def k9m2 : Method := { name := "toBytes", desc := "(C)[B", sig := { parameters := [.char], returnType := some (.array .byte) }, accessFlags := 9, code := some k9c2 }
/-- java/lang/StringLatin1 -/
def k9 : Class := { plain "java/lang/StringLatin1" (some 0) with
  accessFlags := 48
  interfaces := #[]
  cf := some (fileOf pool9 14 #[.nestMembers #[390, 221]] #[{ accessFlags := 0, nameIndex := 7, descriptorIndex := 8, attributes := #[] }, { accessFlags := 9, nameIndex := 90, descriptorIndex := 105, attributes := #[] }, { accessFlags := 9, nameIndex := 380, descriptorIndex := 382, attributes := #[] }] 48 4 #[] #[{ accessFlags := 4120, nameIndex := 121, descriptorIndex := 122, attributes := #[] }])
  fields := #[{ name := "$assertionsDisabled", type := .boolean, accessFlags := 4120, slot := 0, constantValue := 0 }]
  methods := #[k9m0, k9m1, k9m2]
  instanceTypes := #[]
  staticTypes := #[.boolean]
  resolved := Array.replicate 395 none
  statics := none }

def pool10 : Array CpInfo := pool [(1, .methodref 2 3), (0, .class_ 4), (0, .nameAndType 5 6), (0, u "java/lang/Object"), (0, u "<init>"), (0, u "()V"), (1, .class_ 10), (1, u "java/lang/Number"), (2, .class_ 14), (0, u "java/io/Serializable"), (0, u "serialVersionUID"), (0, u "J")] 20

def k10c0 : Code := { maxStack := 1, maxLocals := 1, code := jdk_18_method_1_code, exceptionTable := #[], attributes := #[] }
def k10m0 : Method := { name := "<init>", desc := "()V", sig := { parameters := [], returnType := none }, accessFlags := 1, code := some k10c0 }
/-- java/lang/Number -/
def k10 : Class := { plain "java/lang/Number" (some 0) with
  accessFlags := 1057
  interfaces := #[2]
  cf := some (fileOf pool10 8 #[] #[{ accessFlags := 1, nameIndex := 5, descriptorIndex := 6, attributes := #[] }] 1057 2 #[13] #[{ accessFlags := 26, nameIndex := 15, descriptorIndex := 16, attributes := #[] }])
  fields := #[{ name := "serialVersionUID", type := .long, accessFlags := 26, slot := 0, constantValue := 0 }]
  methods := #[k10m0]
  instanceTypes := #[]
  staticTypes := #[.long]
  resolved := Array.replicate 37 none
  statics := none }

def pool11 : Array CpInfo := pool [(1, .class_ 2), (0, u "java/lang/Integer"), (16, u "digits"), (0, u "[C"), (46, u "<init>"), (17, u "DigitOnes"), (0, u "[B"), (2, u "DigitTens"), (10, .nameAndType 67 101), (0, u "()V"), (85, u "valueOf"), (0, u "(I)Ljava/lang/Integer;"), (0, .class_ 190), (0, u "java/lang/Integer$IntegerCache"), (0, .fieldref 189 192), (0, .nameAndType 193 194), (0, u "high"), (0, u "I"), (0, .fieldref 189 196), (0, .nameAndType 197 198), (0, u "cache"), (0, u "[Ljava/lang/Integer;"), (0, .methodref 1 200), (0, .nameAndType 67 201), (0, u "(I)V"), (0, .methodref 203 100), (0, .class_ 204), (0, u "java/lang/Number"), (0, .fieldref 1 206), (0, .nameAndType 207 194), (0, u "value"), (94, u "TYPE"), (0, u "Ljava/lang/Class;"), (0, .class_ 305), (0, u "java/lang/Comparable"), (0, .class_ 307), (0, u "java/lang/constant/Constable"), (0, .class_ 309), (0, u "java/lang/constant/ConstantDesc"), (0, u "MIN_VALUE"), (1, u "MAX_VALUE"), (3, u "SIZE"), (1, u "BYTES"), (1, u "serialVersionUID"), (0, u "J")] 131

def k11c0 : Code := { maxStack := 3, maxLocals := 1, code := jdk_33_method_22_code, exceptionTable := #[], attributes := #[] }
def k11m0 : Method := { name := "valueOf", desc := "(I)Ljava/lang/Integer;", sig := { parameters := [.int], returnType := some (.object "java/lang/Integer") }, accessFlags := 9, code := some k11c0 }
def k11c1 : Code := { maxStack := 2, maxLocals := 2, code := jdk_33_method_23_code, exceptionTable := #[], attributes := #[] }
def k11m1 : Method := { name := "<init>", desc := "(I)V", sig := { parameters := [.int], returnType := none }, accessFlags := 1, code := some k11c1 }
/-- java/lang/Integer -/
def k11 : Class := { plain "java/lang/Integer" (some 10) with
  accessFlags := 49
  interfaces := #[3, 5, 6]
  cf := some (fileOf pool11 1 #[.nestMembers #[189]] #[{ accessFlags := 9, nameIndex := 187, descriptorIndex := 188, attributes := #[] }, { accessFlags := 1, nameIndex := 67, descriptorIndex := 201, attributes := #[] }] 49 203 #[304, 306, 308] #[{ accessFlags := 25, nameIndex := 310, descriptorIndex := 194, attributes := #[] }, { accessFlags := 25, nameIndex := 312, descriptorIndex := 194, attributes := #[] }, { accessFlags := 25, nameIndex := 302, descriptorIndex := 303, attributes := #[] }, { accessFlags := 24, nameIndex := 19, descriptorIndex := 20, attributes := #[] }, { accessFlags := 24, nameIndex := 89, descriptorIndex := 86, attributes := #[] }, { accessFlags := 24, nameIndex := 85, descriptorIndex := 86, attributes := #[] }, { accessFlags := 18, nameIndex := 207, descriptorIndex := 194, attributes := #[] }, { accessFlags := 25, nameIndex := 316, descriptorIndex := 194, attributes := #[] }, { accessFlags := 25, nameIndex := 318, descriptorIndex := 194, attributes := #[] }, { accessFlags := 26, nameIndex := 320, descriptorIndex := 321, attributes := #[] }])
  fields := #[{ name := "MIN_VALUE", type := .int, accessFlags := 25, slot := 0, constantValue := 0 }, { name := "MAX_VALUE", type := .int, accessFlags := 25, slot := 1, constantValue := 0 }, { name := "TYPE", type := (.object "java/lang/Class"), accessFlags := 25, slot := 2, constantValue := 0 }, { name := "digits", type := (.array .char), accessFlags := 24, slot := 3, constantValue := 0 }, { name := "DigitTens", type := (.array .byte), accessFlags := 24, slot := 4, constantValue := 0 }, { name := "DigitOnes", type := (.array .byte), accessFlags := 24, slot := 5, constantValue := 0 }, { name := "value", type := .int, accessFlags := 18, slot := 0, constantValue := 0 }, { name := "SIZE", type := .int, accessFlags := 25, slot := 6, constantValue := 0 }, { name := "BYTES", type := .int, accessFlags := 25, slot := 7, constantValue := 0 }, { name := "serialVersionUID", type := .long, accessFlags := 26, slot := 8, constantValue := 0 }]
  methods := #[k11m0, k11m1]
  instanceTypes := #[.int]
  staticTypes := #[.int, .int, (.object "java/lang/Class"), (.array .char), (.array .byte), (.array .byte), .int, .int, .long]
  resolved := Array.replicate 453 none
  statics := none }

def pool12 : Array CpInfo := pool [(2, .class_ 4), (1, u "java/lang/Object"), (0, u "<init>"), (0, u "()V"), (0, .class_ 8), (0, u "java/lang/Integer"), (7, .class_ 18), (1, u "java/lang/Integer$IntegerCache"), (0, u "$assertionsDisabled"), (0, u "Z"), (26, u "high"), (0, u "I"), (8, u "archivedCache"), (0, u "[Ljava/lang/Integer;"), (12, u "cache"), (0, u "low")] 27

def k12m0 : Method := { name := "<init>", desc := "()V", sig := { parameters := [], returnType := none }, accessFlags := 2, code := none }
/-- java/lang/Integer$IntegerCache -/
def k12 : Class := { plain "java/lang/Integer$IntegerCache" (some 0) with
  accessFlags := 48
  interfaces := #[]
  cf := some (fileOf pool12 16 #[.nestHost 7] #[{ accessFlags := 2, nameIndex := 5, descriptorIndex := 6, attributes := #[] }] 48 2 #[] #[{ accessFlags := 24, nameIndex := 72, descriptorIndex := 48, attributes := #[] }, { accessFlags := 24, nameIndex := 47, descriptorIndex := 48, attributes := #[] }, { accessFlags := 24, nameIndex := 71, descriptorIndex := 58, attributes := #[] }, { accessFlags := 8, nameIndex := 57, descriptorIndex := 58, attributes := #[] }, { accessFlags := 4120, nameIndex := 19, descriptorIndex := 20, attributes := #[] }])
  fields := #[{ name := "low", type := .int, accessFlags := 24, slot := 0, constantValue := 0 }, { name := "high", type := .int, accessFlags := 24, slot := 1, constantValue := 0 }, { name := "cache", type := (.array (.object "java/lang/Integer")), accessFlags := 24, slot := 2, constantValue := 0 }, { name := "archivedCache", type := (.array (.object "java/lang/Integer")), accessFlags := 8, slot := 3, constantValue := 0 }, { name := "$assertionsDisabled", type := .boolean, accessFlags := 4120, slot := 4, constantValue := 0 }]
  methods := #[k12m0]
  instanceTypes := #[]
  staticTypes := #[.int, .int, (.array (.object "java/lang/Integer")), (.array (.object "java/lang/Integer")), .boolean]
  resolved := Array.replicate 100 none
  statics := some 1 }

def pool13 : Array CpInfo := pool [(1, .methodref 2 3), (0, .class_ 4), (0, .nameAndType 5 6), (0, u "java/lang/Object"), (0, u "<init>"), (0, u "()V"), (0, .methodref 8 9), (0, .class_ 10), (0, .nameAndType 11 12), (0, u "java/util/Objects"), (0, u "requireNonNull"), (0, u "(Ljava/lang/Object;)Ljava/lang/Object;"), (0, .class_ 14), (0, u "java/lang/String"), (0, .fieldref 16 17), (0, .class_ 18), (0, .nameAndType 19 20), (0, u "com/example/durable_state/durablestate/io/MarkedValue"), (0, u "migration"), (0, u "Ljava/lang/String;"), (0, .fieldref 16 22), (0, .nameAndType 23 24), (0, u "value"), (0, u "Ljava/lang/Object;"), (0, u "(Ljava/lang/String;Ljava/lang/Object;)V"), (2, u "unmarked")] 5

def k13c0 : Code := { maxStack := 2, maxLocals := 3, code := prog_10_method_1_code, exceptionTable := #[], attributes := #[] }
def k13m0 : Method := { name := "<init>", desc := "(Ljava/lang/String;Ljava/lang/Object;)V", sig := { parameters := [(.object "java/lang/String"), (.object "java/lang/Object")], returnType := none }, accessFlags := 0, code := some k13c0 }
def k13c1 : Code := { maxStack := 1, maxLocals := 1, code := prog_10_method_2_code, exceptionTable := #[], attributes := #[] }
def k13m1 : Method := { name := "unmarked", desc := "(Ljava/lang/Object;)Ljava/lang/Object;", sig := { parameters := [(.object "java/lang/Object")], returnType := some (.object "java/lang/Object") }, accessFlags := 9, code := some k13c1 }
/-- com/example/durable_state/durablestate/io/MarkedValue -/
def k13 : Class := { plain "com/example/durable_state/durablestate/io/MarkedValue" (some 0) with
  accessFlags := 49
  interfaces := #[]
  cf := some (fileOf pool13 16 #[] #[{ accessFlags := 0, nameIndex := 5, descriptorIndex := 25, attributes := #[] }, { accessFlags := 9, nameIndex := 28, descriptorIndex := 12, attributes := #[] }] 49 2 #[] #[{ accessFlags := 18, nameIndex := 19, descriptorIndex := 20, attributes := #[] }, { accessFlags := 18, nameIndex := 23, descriptorIndex := 24, attributes := #[] }])
  fields := #[{ name := "migration", type := (.object "java/lang/String"), accessFlags := 18, slot := 0, constantValue := 0 }, { name := "value", type := (.object "java/lang/Object"), accessFlags := 18, slot := 1, constantValue := 0 }]
  methods := #[k13m0, k13m1]
  instanceTypes := #[(.object "java/lang/String"), (.object "java/lang/Object")]
  staticTypes := #[]
  resolved := Array.replicate 34 none
  statics := none }

def pool14 : Array CpInfo := pool [(2, .class_ 4), (1, u "java/lang/Object"), (0, u "<init>"), (0, u "()V"), (35, .class_ 44), (1, u "java/util/Objects"), (0, u "requireNonNull"), (0, u "(Ljava/lang/Object;)Ljava/lang/Object;")] 137

def k14m0 : Method := { name := "<init>", desc := "()V", sig := { parameters := [], returnType := none }, accessFlags := 2, code := none }
def k14c1 : Code := { maxStack := 2, maxLocals := 1, code := jdk_31_method_10_code, exceptionTable := #[], attributes := #[] }
def k14m1 : Method := { name := "requireNonNull", desc := "(Ljava/lang/Object;)Ljava/lang/Object;", sig := { parameters := [(.object "java/lang/Object")], returnType := some (.object "java/lang/Object") }, accessFlags := 9, code := some k14c1 }
/-- java/util/Objects -/
def k14 : Class := { plain "java/util/Objects" (some 0) with
  accessFlags := 49
  interfaces := #[]
  cf := some (fileOf pool14 42 #[] #[{ accessFlags := 2, nameIndex := 5, descriptorIndex := 6, attributes := #[] }, { accessFlags := 9, nameIndex := 45, descriptorIndex := 46, attributes := #[] }] 49 2 #[] #[])
  fields := #[]
  methods := #[k14m0, k14m1]
  instanceTypes := #[]
  staticTypes := #[]
  resolved := Array.replicate 184 none
  statics := none }

def pool15 : Array CpInfo := pool [(2, .class_ 4), (1, u "java/lang/Object"), (0, u "<init>"), (0, u "()V"), (17, .class_ 26), (1, u "jdk/internal/util/Preconditions"), (28, .class_ 56), (0, u "jdk/internal/util/Preconditions$4"), (57, .class_ 115), (0, u "jdk/internal/util/Preconditions$1"), (7, u "SIOOBE_FORMATTER"), (0, u "Ljava/util/function/BiFunction;"), (0, .class_ 126), (0, u "jdk/internal/util/Preconditions$2"), (3, u "AIOOBE_FORMATTER"), (0, .class_ 132), (0, u "jdk/internal/util/Preconditions$3"), (3, u "IOOBE_FORMATTER")] 57

def k15m0 : Method := { name := "<init>", desc := "()V", sig := { parameters := [], returnType := none }, accessFlags := 1, code := none }
/-- jdk/internal/util/Preconditions -/
def k15 : Class := { plain "jdk/internal/util/Preconditions" (some 0) with
  accessFlags := 33
  interfaces := #[]
  cf := some (fileOf pool15 24 #[.nestMembers #[55, 131, 125, 114]] #[{ accessFlags := 1, nameIndex := 5, descriptorIndex := 6, attributes := #[] }] 33 2 #[] #[{ accessFlags := 25, nameIndex := 123, descriptorIndex := 124, attributes := #[] }, { accessFlags := 25, nameIndex := 130, descriptorIndex := 124, attributes := #[] }, { accessFlags := 25, nameIndex := 136, descriptorIndex := 124, attributes := #[] }])
  fields := #[{ name := "SIOOBE_FORMATTER", type := (.object "java/util/function/BiFunction"), accessFlags := 25, slot := 0, constantValue := 0 }, { name := "AIOOBE_FORMATTER", type := (.object "java/util/function/BiFunction"), accessFlags := 25, slot := 1, constantValue := 0 }, { name := "IOOBE_FORMATTER", type := (.object "java/util/function/BiFunction"), accessFlags := 25, slot := 2, constantValue := 0 }]
  methods := #[k15m0]
  instanceTypes := #[]
  staticTypes := #[(.object "java/util/function/BiFunction"), (.object "java/util/function/BiFunction"), (.object "java/util/function/BiFunction")]
  resolved := Array.replicate 194 none
  statics := some 2 }

def pool16 : Array CpInfo := pool [(9, u "<init>"), (6, .class_ 18), (1, u "java/lang/Object"), (0, u "()V"), (1, .class_ 23), (1, u "jdk/internal/util/ArraysSupport"), (0, u "LOG2_ARRAY_LONG_INDEX_SCALE"), (0, u "I"), (2, u "U"), (0, u "Ljdk/internal/misc/Unsafe;"), (8, u "BIG_ENDIAN"), (0, u "Z"), (8, u "LOG2_BYTE_BIT_SIZE"), (4, u "LOG2_ARRAY_INT_INDEX_SCALE"), (54, u "JLA"), (0, u "Ljdk/internal/access/JavaLangAccess;"), (11, u "LOG2_ARRAY_BOOLEAN_INDEX_SCALE"), (9, u "LOG2_ARRAY_BYTE_INDEX_SCALE"), (5, u "LOG2_ARRAY_CHAR_INDEX_SCALE"), (5, u "LOG2_ARRAY_SHORT_INDEX_SCALE"), (18, u "LOG2_ARRAY_FLOAT_INDEX_SCALE"), (24, u "LOG2_ARRAY_DOUBLE_INDEX_SCALE"), (89, u "T_BOOLEAN"), (2, u "T_CHAR"), (1, u "T_FLOAT"), (1, u "T_DOUBLE"), (1, u "T_BYTE"), (1, u "T_SHORT"), (1, u "T_INT"), (1, u "T_LONG"), (1, u "SOFT_MAX_ARRAY_LENGTH")] 83

def k16m0 : Method := { name := "<init>", desc := "()V", sig := { parameters := [], returnType := none }, accessFlags := 2, code := none }
/-- jdk/internal/util/ArraysSupport -/
def k16 : Class := { plain "jdk/internal/util/ArraysSupport" (some 0) with
  accessFlags := 33
  interfaces := #[]
  cf := some (fileOf pool16 21 #[] #[{ accessFlags := 2, nameIndex := 9, descriptorIndex := 19, attributes := #[] }] 33 16 #[] #[{ accessFlags := 24, nameIndex := 28, descriptorIndex := 29, attributes := #[] }, { accessFlags := 26, nameIndex := 38, descriptorIndex := 39, attributes := #[] }, { accessFlags := 25, nameIndex := 121, descriptorIndex := 25, attributes := #[] }, { accessFlags := 25, nameIndex := 131, descriptorIndex := 25, attributes := #[] }, { accessFlags := 25, nameIndex := 137, descriptorIndex := 25, attributes := #[] }, { accessFlags := 25, nameIndex := 143, descriptorIndex := 25, attributes := #[] }, { accessFlags := 25, nameIndex := 53, descriptorIndex := 25, attributes := #[] }, { accessFlags := 25, nameIndex := 24, descriptorIndex := 25, attributes := #[] }, { accessFlags := 25, nameIndex := 162, descriptorIndex := 25, attributes := #[] }, { accessFlags := 25, nameIndex := 187, descriptorIndex := 25, attributes := #[] }, { accessFlags := 26, nameIndex := 48, descriptorIndex := 25, attributes := #[] }, { accessFlags := 25, nameIndex := 277, descriptorIndex := 25, attributes := #[] }, { accessFlags := 25, nameIndex := 280, descriptorIndex := 25, attributes := #[] }, { accessFlags := 25, nameIndex := 282, descriptorIndex := 25, attributes := #[] }, { accessFlags := 25, nameIndex := 284, descriptorIndex := 25, attributes := #[] }, { accessFlags := 25, nameIndex := 286, descriptorIndex := 25, attributes := #[] }, { accessFlags := 25, nameIndex := 288, descriptorIndex := 25, attributes := #[] }, { accessFlags := 25, nameIndex := 290, descriptorIndex := 25, attributes := #[] }, { accessFlags := 25, nameIndex := 292, descriptorIndex := 25, attributes := #[] }, { accessFlags := 26, nameIndex := 108, descriptorIndex := 109, attributes := #[] }, { accessFlags := 25, nameIndex := 294, descriptorIndex := 25, attributes := #[] }])
  fields := #[{ name := "U", type := (.object "jdk/internal/misc/Unsafe"), accessFlags := 24, slot := 0, constantValue := 0 }, { name := "BIG_ENDIAN", type := .boolean, accessFlags := 26, slot := 1, constantValue := 0 }, { name := "LOG2_ARRAY_BOOLEAN_INDEX_SCALE", type := .int, accessFlags := 25, slot := 2, constantValue := 0 }, { name := "LOG2_ARRAY_BYTE_INDEX_SCALE", type := .int, accessFlags := 25, slot := 3, constantValue := 0 }, { name := "LOG2_ARRAY_CHAR_INDEX_SCALE", type := .int, accessFlags := 25, slot := 4, constantValue := 0 }, { name := "LOG2_ARRAY_SHORT_INDEX_SCALE", type := .int, accessFlags := 25, slot := 5, constantValue := 0 }, { name := "LOG2_ARRAY_INT_INDEX_SCALE", type := .int, accessFlags := 25, slot := 6, constantValue := 0 }, { name := "LOG2_ARRAY_LONG_INDEX_SCALE", type := .int, accessFlags := 25, slot := 7, constantValue := 0 }, { name := "LOG2_ARRAY_FLOAT_INDEX_SCALE", type := .int, accessFlags := 25, slot := 8, constantValue := 0 }, { name := "LOG2_ARRAY_DOUBLE_INDEX_SCALE", type := .int, accessFlags := 25, slot := 9, constantValue := 0 }, { name := "LOG2_BYTE_BIT_SIZE", type := .int, accessFlags := 26, slot := 10, constantValue := 0 }, { name := "T_BOOLEAN", type := .int, accessFlags := 25, slot := 11, constantValue := 0 }, { name := "T_CHAR", type := .int, accessFlags := 25, slot := 12, constantValue := 0 }, { name := "T_FLOAT", type := .int, accessFlags := 25, slot := 13, constantValue := 0 }, { name := "T_DOUBLE", type := .int, accessFlags := 25, slot := 14, constantValue := 0 }, { name := "T_BYTE", type := .int, accessFlags := 25, slot := 15, constantValue := 0 }, { name := "T_SHORT", type := .int, accessFlags := 25, slot := 16, constantValue := 0 }, { name := "T_INT", type := .int, accessFlags := 25, slot := 17, constantValue := 0 }, { name := "T_LONG", type := .int, accessFlags := 25, slot := 18, constantValue := 0 }, { name := "JLA", type := (.object "jdk/internal/access/JavaLangAccess"), accessFlags := 26, slot := 19, constantValue := 0 }, { name := "SOFT_MAX_ARRAY_LENGTH", type := .int, accessFlags := 25, slot := 20, constantValue := 0 }]
  methods := #[k16m0]
  instanceTypes := #[]
  staticTypes := #[(.object "jdk/internal/misc/Unsafe"), .boolean, .int, .int, .int, .int, .int, .int, .int, .int, .int, .int, .int, .int, .int, .int, .int, .int, .int, (.object "jdk/internal/access/JavaLangAccess"), .int]
  resolved := Array.replicate 378 none
  statics := none }

def pool17 : Array CpInfo := pool [(1, u "java/lang/Cloneable"), (0, .class_ 1), (0, u "java/lang/Object"), (0, .class_ 3)] 3

/-- java/lang/Cloneable -/
def k17 : Class := { plain "java/lang/Cloneable" (some 0) with
  accessFlags := 1537
  interfaces := #[]
  cf := some (fileOf pool17 2 #[] #[] 1537 4 #[] #[])
  fields := #[]
  methods := #[]
  instanceTypes := #[]
  staticTypes := #[]
  resolved := Array.replicate 8 none
  statics := none }

/-- the primitive byte -/
def k18 : Class := { plain "byte" none with kind := .primitive 'B', accessFlags := 0x411 }
/-- [B -/
def k19 : Class := { plain "[B" (some 0) with kind := .array 18 .byte, interfaces := #[17, 2], accessFlags := 1041 }

/-- the primitive char -/
def k20 : Class := { plain "char" none with kind := .primitive 'C', accessFlags := 0x411 }
/-- [C -/
def k21 : Class := { plain "[C" (some 0) with kind := .array 20 .char, interfaces := #[17, 2], accessFlags := 1041 }

/-- the primitive int -/
def k22 : Class := { plain "int" none with kind := .primitive 'I', accessFlags := 0x411 }
/-- [I -/
def k23 : Class := { plain "[I" (some 0) with kind := .array 22 .int, interfaces := #[17, 2], accessFlags := 1041 }

/-- [Ljava/lang/Integer; -/
def k24 : Class := { plain "[Ljava/lang/Integer;" (some 0) with kind := .array 11 (.object "java/lang/Integer"), interfaces := #[17, 2], accessFlags := 1041 }

def heap : Heap := #[{ cls := 7, slots := #[.long 0, .int 1, .null, .int 0, .null, .int 0, .int 0], vm := .statics 7 },
  { cls := 12, slots := #[.int 0, .int 127, .ref 3, .null, .int 0], vm := .statics 12 },
  { cls := 15, slots := #[.null, .null, .null], vm := .statics 15 },
  { cls := 24, slots := #[.ref 4, .ref 5, .ref 6, .ref 7, .ref 8, .ref 9, .ref 10, .ref 11, .ref 12, .ref 13, .ref 14, .ref 15, .ref 16, .ref 17, .ref 18, .ref 19, .ref 20, .ref 21, .ref 22, .ref 23, .ref 24, .ref 25, .ref 26, .ref 27, .ref 28, .ref 29, .ref 30, .ref 31, .ref 32, .ref 33, .ref 34, .ref 35, .ref 36, .ref 37, .ref 38, .ref 39, .ref 40, .ref 41, .ref 42, .ref 43, .ref 44, .ref 45, .ref 46, .ref 47, .ref 48, .ref 49, .ref 50, .ref 51, .ref 52, .ref 53, .ref 54, .ref 55, .ref 56, .ref 57, .ref 58, .ref 59, .ref 60, .ref 61, .ref 62, .ref 63, .ref 64, .ref 65, .ref 66, .ref 67, .ref 68, .ref 69, .ref 70, .ref 71, .ref 72, .ref 73, .ref 74, .ref 75, .ref 76, .ref 77, .ref 78, .ref 79, .ref 80, .ref 81, .ref 82, .ref 83, .ref 84, .ref 85, .ref 86, .ref 87, .ref 88, .ref 89, .ref 90, .ref 91, .ref 92, .ref 93, .ref 94, .ref 95, .ref 96, .ref 97, .ref 98, .ref 99, .ref 100, .ref 101, .ref 102, .ref 103, .ref 104, .ref 105, .ref 106, .ref 107, .ref 108, .ref 109, .ref 110, .ref 111, .ref 112, .ref 113, .ref 114, .ref 115, .ref 116, .ref 117, .ref 118, .ref 119, .ref 120, .ref 121, .ref 122, .ref 123, .ref 124, .ref 125, .ref 126, .ref 127, .ref 128, .ref 129, .ref 130, .ref 131, .ref 132, .ref 133, .ref 134, .ref 135, .ref 136, .ref 137, .ref 138, .ref 139, .ref 140, .ref 141, .ref 142, .ref 143, .ref 144, .ref 145, .ref 146, .ref 147, .ref 148, .ref 149, .ref 150, .ref 151, .ref 152, .ref 153, .ref 154, .ref 155, .ref 156, .ref 157, .ref 158, .ref 159, .ref 160, .ref 161, .ref 162, .ref 163, .ref 164, .ref 165, .ref 166, .ref 167, .ref 168, .ref 169, .ref 170, .ref 171, .ref 172, .ref 173, .ref 174, .ref 175, .ref 176, .ref 177, .ref 178, .ref 179, .ref 180, .ref 181, .ref 182, .ref 183, .ref 184, .ref 185, .ref 186, .ref 187, .ref 188, .ref 189, .ref 190, .ref 191, .ref 192, .ref 193, .ref 194, .ref 195, .ref 196, .ref 197, .ref 198, .ref 199, .ref 200, .ref 201, .ref 202, .ref 203, .ref 204, .ref 205, .ref 206, .ref 207, .ref 208, .ref 209, .ref 210, .ref 211, .ref 212, .ref 213, .ref 214, .ref 215, .ref 216, .ref 217, .ref 218, .ref 219, .ref 220, .ref 221, .ref 222, .ref 223, .ref 224, .ref 225, .ref 226, .ref 227, .ref 228, .ref 229, .ref 230, .ref 231, .ref 232, .ref 233, .ref 234, .ref 235, .ref 236, .ref 237, .ref 238, .ref 239, .ref 240, .ref 241, .ref 242, .ref 243, .ref 244, .ref 245, .ref 246, .ref 247, .ref 248, .ref 249, .ref 250, .ref 251, .ref 252, .ref 253, .ref 254, .ref 255, .ref 256, .ref 257, .ref 258, .ref 259], vm := .none },
  { cls := 11, slots := #[.int (-128)], vm := .none },
  { cls := 11, slots := #[.int (-127)], vm := .none },
  { cls := 11, slots := #[.int (-126)], vm := .none },
  { cls := 11, slots := #[.int (-125)], vm := .none },
  { cls := 11, slots := #[.int (-124)], vm := .none },
  { cls := 11, slots := #[.int (-123)], vm := .none },
  { cls := 11, slots := #[.int (-122)], vm := .none },
  { cls := 11, slots := #[.int (-121)], vm := .none },
  { cls := 11, slots := #[.int (-120)], vm := .none },
  { cls := 11, slots := #[.int (-119)], vm := .none },
  { cls := 11, slots := #[.int (-118)], vm := .none },
  { cls := 11, slots := #[.int (-117)], vm := .none },
  { cls := 11, slots := #[.int (-116)], vm := .none },
  { cls := 11, slots := #[.int (-115)], vm := .none },
  { cls := 11, slots := #[.int (-114)], vm := .none },
  { cls := 11, slots := #[.int (-113)], vm := .none },
  { cls := 11, slots := #[.int (-112)], vm := .none },
  { cls := 11, slots := #[.int (-111)], vm := .none },
  { cls := 11, slots := #[.int (-110)], vm := .none },
  { cls := 11, slots := #[.int (-109)], vm := .none },
  { cls := 11, slots := #[.int (-108)], vm := .none },
  { cls := 11, slots := #[.int (-107)], vm := .none },
  { cls := 11, slots := #[.int (-106)], vm := .none },
  { cls := 11, slots := #[.int (-105)], vm := .none },
  { cls := 11, slots := #[.int (-104)], vm := .none },
  { cls := 11, slots := #[.int (-103)], vm := .none },
  { cls := 11, slots := #[.int (-102)], vm := .none },
  { cls := 11, slots := #[.int (-101)], vm := .none },
  { cls := 11, slots := #[.int (-100)], vm := .none },
  { cls := 11, slots := #[.int (-99)], vm := .none },
  { cls := 11, slots := #[.int (-98)], vm := .none },
  { cls := 11, slots := #[.int (-97)], vm := .none },
  { cls := 11, slots := #[.int (-96)], vm := .none },
  { cls := 11, slots := #[.int (-95)], vm := .none },
  { cls := 11, slots := #[.int (-94)], vm := .none },
  { cls := 11, slots := #[.int (-93)], vm := .none },
  { cls := 11, slots := #[.int (-92)], vm := .none },
  { cls := 11, slots := #[.int (-91)], vm := .none },
  { cls := 11, slots := #[.int (-90)], vm := .none },
  { cls := 11, slots := #[.int (-89)], vm := .none },
  { cls := 11, slots := #[.int (-88)], vm := .none },
  { cls := 11, slots := #[.int (-87)], vm := .none },
  { cls := 11, slots := #[.int (-86)], vm := .none },
  { cls := 11, slots := #[.int (-85)], vm := .none },
  { cls := 11, slots := #[.int (-84)], vm := .none },
  { cls := 11, slots := #[.int (-83)], vm := .none },
  { cls := 11, slots := #[.int (-82)], vm := .none },
  { cls := 11, slots := #[.int (-81)], vm := .none },
  { cls := 11, slots := #[.int (-80)], vm := .none },
  { cls := 11, slots := #[.int (-79)], vm := .none },
  { cls := 11, slots := #[.int (-78)], vm := .none },
  { cls := 11, slots := #[.int (-77)], vm := .none },
  { cls := 11, slots := #[.int (-76)], vm := .none },
  { cls := 11, slots := #[.int (-75)], vm := .none },
  { cls := 11, slots := #[.int (-74)], vm := .none },
  { cls := 11, slots := #[.int (-73)], vm := .none },
  { cls := 11, slots := #[.int (-72)], vm := .none },
  { cls := 11, slots := #[.int (-71)], vm := .none },
  { cls := 11, slots := #[.int (-70)], vm := .none },
  { cls := 11, slots := #[.int (-69)], vm := .none },
  { cls := 11, slots := #[.int (-68)], vm := .none },
  { cls := 11, slots := #[.int (-67)], vm := .none },
  { cls := 11, slots := #[.int (-66)], vm := .none },
  { cls := 11, slots := #[.int (-65)], vm := .none },
  { cls := 11, slots := #[.int (-64)], vm := .none },
  { cls := 11, slots := #[.int (-63)], vm := .none },
  { cls := 11, slots := #[.int (-62)], vm := .none },
  { cls := 11, slots := #[.int (-61)], vm := .none },
  { cls := 11, slots := #[.int (-60)], vm := .none },
  { cls := 11, slots := #[.int (-59)], vm := .none },
  { cls := 11, slots := #[.int (-58)], vm := .none },
  { cls := 11, slots := #[.int (-57)], vm := .none },
  { cls := 11, slots := #[.int (-56)], vm := .none },
  { cls := 11, slots := #[.int (-55)], vm := .none },
  { cls := 11, slots := #[.int (-54)], vm := .none },
  { cls := 11, slots := #[.int (-53)], vm := .none },
  { cls := 11, slots := #[.int (-52)], vm := .none },
  { cls := 11, slots := #[.int (-51)], vm := .none },
  { cls := 11, slots := #[.int (-50)], vm := .none },
  { cls := 11, slots := #[.int (-49)], vm := .none },
  { cls := 11, slots := #[.int (-48)], vm := .none },
  { cls := 11, slots := #[.int (-47)], vm := .none },
  { cls := 11, slots := #[.int (-46)], vm := .none },
  { cls := 11, slots := #[.int (-45)], vm := .none },
  { cls := 11, slots := #[.int (-44)], vm := .none },
  { cls := 11, slots := #[.int (-43)], vm := .none },
  { cls := 11, slots := #[.int (-42)], vm := .none },
  { cls := 11, slots := #[.int (-41)], vm := .none },
  { cls := 11, slots := #[.int (-40)], vm := .none },
  { cls := 11, slots := #[.int (-39)], vm := .none },
  { cls := 11, slots := #[.int (-38)], vm := .none },
  { cls := 11, slots := #[.int (-37)], vm := .none },
  { cls := 11, slots := #[.int (-36)], vm := .none },
  { cls := 11, slots := #[.int (-35)], vm := .none },
  { cls := 11, slots := #[.int (-34)], vm := .none },
  { cls := 11, slots := #[.int (-33)], vm := .none },
  { cls := 11, slots := #[.int (-32)], vm := .none },
  { cls := 11, slots := #[.int (-31)], vm := .none },
  { cls := 11, slots := #[.int (-30)], vm := .none },
  { cls := 11, slots := #[.int (-29)], vm := .none },
  { cls := 11, slots := #[.int (-28)], vm := .none },
  { cls := 11, slots := #[.int (-27)], vm := .none },
  { cls := 11, slots := #[.int (-26)], vm := .none },
  { cls := 11, slots := #[.int (-25)], vm := .none },
  { cls := 11, slots := #[.int (-24)], vm := .none },
  { cls := 11, slots := #[.int (-23)], vm := .none },
  { cls := 11, slots := #[.int (-22)], vm := .none },
  { cls := 11, slots := #[.int (-21)], vm := .none },
  { cls := 11, slots := #[.int (-20)], vm := .none },
  { cls := 11, slots := #[.int (-19)], vm := .none },
  { cls := 11, slots := #[.int (-18)], vm := .none },
  { cls := 11, slots := #[.int (-17)], vm := .none },
  { cls := 11, slots := #[.int (-16)], vm := .none },
  { cls := 11, slots := #[.int (-15)], vm := .none },
  { cls := 11, slots := #[.int (-14)], vm := .none },
  { cls := 11, slots := #[.int (-13)], vm := .none },
  { cls := 11, slots := #[.int (-12)], vm := .none },
  { cls := 11, slots := #[.int (-11)], vm := .none },
  { cls := 11, slots := #[.int (-10)], vm := .none },
  { cls := 11, slots := #[.int (-9)], vm := .none },
  { cls := 11, slots := #[.int (-8)], vm := .none },
  { cls := 11, slots := #[.int (-7)], vm := .none },
  { cls := 11, slots := #[.int (-6)], vm := .none },
  { cls := 11, slots := #[.int (-5)], vm := .none },
  { cls := 11, slots := #[.int (-4)], vm := .none },
  { cls := 11, slots := #[.int (-3)], vm := .none },
  { cls := 11, slots := #[.int (-2)], vm := .none },
  { cls := 11, slots := #[.int (-1)], vm := .none },
  { cls := 11, slots := #[.int 0], vm := .none },
  { cls := 11, slots := #[.int 1], vm := .none },
  { cls := 11, slots := #[.int 2], vm := .none },
  { cls := 11, slots := #[.int 3], vm := .none },
  { cls := 11, slots := #[.int 4], vm := .none },
  { cls := 11, slots := #[.int 5], vm := .none },
  { cls := 11, slots := #[.int 6], vm := .none },
  { cls := 11, slots := #[.int 7], vm := .none },
  { cls := 11, slots := #[.int 8], vm := .none },
  { cls := 11, slots := #[.int 9], vm := .none },
  { cls := 11, slots := #[.int 10], vm := .none },
  { cls := 11, slots := #[.int 11], vm := .none },
  { cls := 11, slots := #[.int 12], vm := .none },
  { cls := 11, slots := #[.int 13], vm := .none },
  { cls := 11, slots := #[.int 14], vm := .none },
  { cls := 11, slots := #[.int 15], vm := .none },
  { cls := 11, slots := #[.int 16], vm := .none },
  { cls := 11, slots := #[.int 17], vm := .none },
  { cls := 11, slots := #[.int 18], vm := .none },
  { cls := 11, slots := #[.int 19], vm := .none },
  { cls := 11, slots := #[.int 20], vm := .none },
  { cls := 11, slots := #[.int 21], vm := .none },
  { cls := 11, slots := #[.int 22], vm := .none },
  { cls := 11, slots := #[.int 23], vm := .none },
  { cls := 11, slots := #[.int 24], vm := .none },
  { cls := 11, slots := #[.int 25], vm := .none },
  { cls := 11, slots := #[.int 26], vm := .none },
  { cls := 11, slots := #[.int 27], vm := .none },
  { cls := 11, slots := #[.int 28], vm := .none },
  { cls := 11, slots := #[.int 29], vm := .none },
  { cls := 11, slots := #[.int 30], vm := .none },
  { cls := 11, slots := #[.int 31], vm := .none },
  { cls := 11, slots := #[.int 32], vm := .none },
  { cls := 11, slots := #[.int 33], vm := .none },
  { cls := 11, slots := #[.int 34], vm := .none },
  { cls := 11, slots := #[.int 35], vm := .none },
  { cls := 11, slots := #[.int 36], vm := .none },
  { cls := 11, slots := #[.int 37], vm := .none },
  { cls := 11, slots := #[.int 38], vm := .none },
  { cls := 11, slots := #[.int 39], vm := .none },
  { cls := 11, slots := #[.int 40], vm := .none },
  { cls := 11, slots := #[.int 41], vm := .none },
  { cls := 11, slots := #[.int 42], vm := .none },
  { cls := 11, slots := #[.int 43], vm := .none },
  { cls := 11, slots := #[.int 44], vm := .none },
  { cls := 11, slots := #[.int 45], vm := .none },
  { cls := 11, slots := #[.int 46], vm := .none },
  { cls := 11, slots := #[.int 47], vm := .none },
  { cls := 11, slots := #[.int 48], vm := .none },
  { cls := 11, slots := #[.int 49], vm := .none },
  { cls := 11, slots := #[.int 50], vm := .none },
  { cls := 11, slots := #[.int 51], vm := .none },
  { cls := 11, slots := #[.int 52], vm := .none },
  { cls := 11, slots := #[.int 53], vm := .none },
  { cls := 11, slots := #[.int 54], vm := .none },
  { cls := 11, slots := #[.int 55], vm := .none },
  { cls := 11, slots := #[.int 56], vm := .none },
  { cls := 11, slots := #[.int 57], vm := .none },
  { cls := 11, slots := #[.int 58], vm := .none },
  { cls := 11, slots := #[.int 59], vm := .none },
  { cls := 11, slots := #[.int 60], vm := .none },
  { cls := 11, slots := #[.int 61], vm := .none },
  { cls := 11, slots := #[.int 62], vm := .none },
  { cls := 11, slots := #[.int 63], vm := .none },
  { cls := 11, slots := #[.int 64], vm := .none },
  { cls := 11, slots := #[.int 65], vm := .none },
  { cls := 11, slots := #[.int 66], vm := .none },
  { cls := 11, slots := #[.int 67], vm := .none },
  { cls := 11, slots := #[.int 68], vm := .none },
  { cls := 11, slots := #[.int 69], vm := .none },
  { cls := 11, slots := #[.int 70], vm := .none },
  { cls := 11, slots := #[.int 71], vm := .none },
  { cls := 11, slots := #[.int 72], vm := .none },
  { cls := 11, slots := #[.int 73], vm := .none },
  { cls := 11, slots := #[.int 74], vm := .none },
  { cls := 11, slots := #[.int 75], vm := .none },
  { cls := 11, slots := #[.int 76], vm := .none },
  { cls := 11, slots := #[.int 77], vm := .none },
  { cls := 11, slots := #[.int 78], vm := .none },
  { cls := 11, slots := #[.int 79], vm := .none },
  { cls := 11, slots := #[.int 80], vm := .none },
  { cls := 11, slots := #[.int 81], vm := .none },
  { cls := 11, slots := #[.int 82], vm := .none },
  { cls := 11, slots := #[.int 83], vm := .none },
  { cls := 11, slots := #[.int 84], vm := .none },
  { cls := 11, slots := #[.int 85], vm := .none },
  { cls := 11, slots := #[.int 86], vm := .none },
  { cls := 11, slots := #[.int 87], vm := .none },
  { cls := 11, slots := #[.int 88], vm := .none },
  { cls := 11, slots := #[.int 89], vm := .none },
  { cls := 11, slots := #[.int 90], vm := .none },
  { cls := 11, slots := #[.int 91], vm := .none },
  { cls := 11, slots := #[.int 92], vm := .none },
  { cls := 11, slots := #[.int 93], vm := .none },
  { cls := 11, slots := #[.int 94], vm := .none },
  { cls := 11, slots := #[.int 95], vm := .none },
  { cls := 11, slots := #[.int 96], vm := .none },
  { cls := 11, slots := #[.int 97], vm := .none },
  { cls := 11, slots := #[.int 98], vm := .none },
  { cls := 11, slots := #[.int 99], vm := .none },
  { cls := 11, slots := #[.int 100], vm := .none },
  { cls := 11, slots := #[.int 101], vm := .none },
  { cls := 11, slots := #[.int 102], vm := .none },
  { cls := 11, slots := #[.int 103], vm := .none },
  { cls := 11, slots := #[.int 104], vm := .none },
  { cls := 11, slots := #[.int 105], vm := .none },
  { cls := 11, slots := #[.int 106], vm := .none },
  { cls := 11, slots := #[.int 107], vm := .none },
  { cls := 11, slots := #[.int 108], vm := .none },
  { cls := 11, slots := #[.int 109], vm := .none },
  { cls := 11, slots := #[.int 110], vm := .none },
  { cls := 11, slots := #[.int 111], vm := .none },
  { cls := 11, slots := #[.int 112], vm := .none },
  { cls := 11, slots := #[.int 113], vm := .none },
  { cls := 11, slots := #[.int 114], vm := .none },
  { cls := 11, slots := #[.int 115], vm := .none },
  { cls := 11, slots := #[.int 116], vm := .none },
  { cls := 11, slots := #[.int 117], vm := .none },
  { cls := 11, slots := #[.int 118], vm := .none },
  { cls := 11, slots := #[.int 119], vm := .none },
  { cls := 11, slots := #[.int 120], vm := .none },
  { cls := 11, slots := #[.int 121], vm := .none },
  { cls := 11, slots := #[.int 122], vm := .none },
  { cls := 11, slots := #[.int 123], vm := .none },
  { cls := 11, slots := #[.int 124], vm := .none },
  { cls := 11, slots := #[.int 125], vm := .none },
  { cls := 11, slots := #[.int 126], vm := .none },
  { cls := 11, slots := #[.int 127], vm := .none }]
def classes : Array Class := #[k0, k1, k2, k3, k4, k5, k6, k7, k8, k9, k10, k11, k12, k13, k14, k15, k16, k17, k18, k19, k20, k21, k22, k23, k24]
def interned : List (Array UInt16 × Addr) := []
def slotsUsed : Nat := 527
def theMethod : MethodId := ⟨1, 1⟩
def args0 : Array Value := #[.int 1, .int 2, .int 3, .int 4]
def aboutOver (below : List Frame) : State where
  vm := { classes := classes, interned := interned.toArray }
  heap := heap
  slotsUsed := slotsUsed
  threads := #[{ frames := .invoking theMethod args0 :: below }]
def below0 : List Frame := [.native { method := ⟨0, 0⟩, args := #[] }]
def about1 : State := aboutOver below0
def p0 : Program := .bare "" "" ""
def e0 : Env := launch0.env 0 0 0
theorem w_frames : about1.frames = Frame.invoking theMethod args0 :: below0 := rfl
set_option maxRecDepth 65536 in
theorem w_args : argsFit about1.vm theMethod args0 = true := by decide +kernel
set_option maxRecDepth 65536 in
theorem w_heap : heapFits about1 = true := by decide +kernel
set_option maxRecDepth 65536 in
theorem w_runnable : about1.curStatus? = some .runnable := by decide +kernel
set_option maxRecDepth 65536 in
theorem w_alone : about1.alone = true := by decide +kernel
set_option maxRecDepth 65536 in
theorem w_named : about1.methodNamed? x = some theMethod := by decide +kernel
set_option maxRecDepth 65536 in
theorem w_hears : about1.hears theMethod below0 = true := by decide +kernel
set_option maxRecDepth 65536 in
theorem w_ripe : about1.ripe theMethod args0 below0 = true := by decide +kernel
theorem w_running : about1.status = .running := rfl
set_option maxRecDepth 65536 in
theorem w_room : about1.hasRoom e0.platform room_1 = true :=
  launch0.hasRoom_least _ room_1 (by decide +kernel) (by decide +kernel) (by decide +kernel) (by decide +kernel) (by decide +kernel) (by decide +kernel)
theorem allAtoms_all (ts : List Jvm.Cond) (a : Array Jvm.Value) (st : Jvm.State) : (allAtoms ts).before a st = ts.all (fun c => c.before a st) := by
  induction ts with
  | nil => rfl
  | cons c t ih =>
    show (Jvm.Cond.and c (allAtoms t)).before a st = _
    rw [Jvm.Cond.before_and, ih, List.all_cons]
def words1 : List Jvm.Cond := Jvm.Cond.code x code maxLocals ret :: tables_1
/-- a 'code' word, met by the world's own term for the bytes: nothing is compared byte by byte -/
theorem code_word {y : MethodName} {bytes : ByteArray} {mx : Nat} {rt : Option FieldType} {a : Array Value} {s : State} {m : MethodId} {meth : Method} {c : Code} (h1 : s.methodNamed? y = some m) (h2 : s.vm.method? m = some meth) (h3 : meth.code = some c) (h4 : c.code = bytes)
    (h5 : (c.maxLocals == mx && c.exceptionTable.isEmpty && decide (c.maxStack ≤ mostOperands) && decide (meth.sig.returnType = rt) && !meth.locks && decide (parseMethodDescriptor y.desc = some meth.sig)) = true) : (Jvm.Cond.code y bytes mx rt).before a s = true := by
  simp only [Bool.and_eq_true, beq_iff_eq, Bool.not_eq_true', decide_eq_true_eq] at h5
  obtain ⟨⟨⟨⟨⟨g1, g2⟩, g3⟩, g4⟩, g5⟩, g6⟩ := h5
  simp [Cond.before, Cond.holds, Cond.value, h1, h2, h3, h4, g1, g2, g3, g4, g5, g6]
def isCode : Jvm.Cond → Bool
  | .code _ _ _ _ => true
  | _ => false
theorem all_split {L : List Jvm.Cond} {P : Jvm.Cond → Bool} (h1 : L.all (fun c => isCode c || P c) = true) (h2 : ∀ c ∈ L.filter isCode, P c = true) : L.all P = true := by
  refine List.all_eq_true.mpr fun c hc => ?_
  have h := List.all_eq_true.mp h1 c hc
  rcases Bool.eq_false_or_eq_true (isCode c) with hi | hi
  · exact h2 c (List.mem_filter.mpr ⟨hc, hi⟩)
  · simpa [hi] using h
set_option maxRecDepth 65536 in
theorem w_c0 : (Jvm.Cond.code x code maxLocals ret).before args0 about1 = true := code_word (m := ⟨1, 1⟩) (meth := k1m1) (c := k1c1) (by decide +kernel) rfl rfl rfl (by decide +kernel)
set_option maxRecDepth 65536 in
theorem w_c1 : (Jvm.Cond.code ({ cls := "java/lang/String", name := "<init>", desc := "([C)V" } : Jvm.MethodName) jdk_42_method_3_code (2 : Nat) (Option.none : Option Jvm.ClassFile.FieldType)).before args0 about1 = true := code_word (m := ⟨7, 1⟩) (meth := k7m1) (c := k7c1) (by decide +kernel) rfl rfl rfl (by decide +kernel)
set_option maxRecDepth 65536 in
theorem w_c2 : (Jvm.Cond.code ({ cls := "java/lang/String", name := "<init>", desc := "([CIILjava/lang/Void;)V" } : Jvm.MethodName) jdk_42_method_149_code (6 : Nat) (Option.none : Option Jvm.ClassFile.FieldType)).before args0 about1 = true := code_word (m := ⟨7, 3⟩) (meth := k7m3) (c := k7c3) (by decide +kernel) rfl rfl rfl (by decide +kernel)
set_option maxRecDepth 65536 in
theorem w_c3 : (Jvm.Cond.code ({ cls := "java/lang/Object", name := "<init>", desc := "()V" } : Jvm.MethodName) object_method_1_code (1 : Nat) (Option.none : Option Jvm.ClassFile.FieldType)).before args0 about1 = true := code_word (m := ⟨0, 0⟩) (meth := k0m0) (c := k0c0) (by decide +kernel) rfl rfl rfl (by decide +kernel)
set_option maxRecDepth 65536 in
theorem w_c4 : (Jvm.Cond.code ({ cls := "java/lang/StringUTF16", name := "compress", desc := "([CII)[B" } : Jvm.MethodName) jdk_52_method_16_code (6 : Nat) (Option.some (Jvm.ClassFile.FieldType.array Jvm.ClassFile.FieldType.byte))).before args0 about1 = true := code_word (m := ⟨8, 2⟩) (meth := k8m2) (c := k8c2) (by decide +kernel) rfl rfl rfl (by decide +kernel)
set_option maxRecDepth 65536 in
theorem w_c5 : (Jvm.Cond.code ({ cls := "java/lang/StringUTF16", name := "compress", desc := "([CI[BII)I" } : Jvm.MethodName) jdk_52_method_21_code (7 : Nat) (Option.some Jvm.ClassFile.FieldType.int)).before args0 about1 = true := code_word (m := ⟨8, 3⟩) (meth := k8m3) (c := k8c3) (by decide +kernel) rfl rfl rfl (by decide +kernel)
set_option maxRecDepth 65536 in
theorem w_c6 : (Jvm.Cond.code ({ cls := "java/lang/StringUTF16", name := "coderFromArrayLen", desc := "([BI)B" } : Jvm.MethodName) jdk_52_method_15_code (2 : Nat) (Option.some Jvm.ClassFile.FieldType.byte)).before args0 about1 = true := code_word (m := ⟨8, 1⟩) (meth := k8m1) (c := k8c1) (by decide +kernel) rfl rfl rfl (by decide +kernel)
set_option maxRecDepth 65536 in
theorem w_c7 : (Jvm.Cond.code ({ cls := "java/lang/String", name := "valueOf", desc := "(C)Ljava/lang/String;" } : Jvm.MethodName) jdk_42_method_139_code (1 : Nat) (Option.some (Jvm.ClassFile.FieldType.object "java/lang/String"))).before args0 about1 = true := code_word (m := ⟨7, 2⟩) (meth := k7m2) (c := k7c2) (by decide +kernel) rfl rfl rfl (by decide +kernel)
set_option maxRecDepth 65536 in
theorem w_c8 : (Jvm.Cond.code ({ cls := "java/lang/StringLatin1", name := "canEncode", desc := "(C)Z" } : Jvm.MethodName) jdk_43_method_3_code (1 : Nat) (Option.some Jvm.ClassFile.FieldType.boolean)).before args0 about1 = true := code_word (m := ⟨9, 1⟩) (meth := k9m1) (c := k9c1) (by decide +kernel) rfl rfl rfl (by decide +kernel)
set_option maxRecDepth 65536 in
theorem w_c9 : (Jvm.Cond.code ({ cls := "java/lang/StringLatin1", name := "toBytes", desc := "(C)[B" } : Jvm.MethodName) jdk_43_method_46_code (1 : Nat) (Option.some (Jvm.ClassFile.FieldType.array Jvm.ClassFile.FieldType.byte))).before args0 about1 = true := code_word (m := ⟨9, 2⟩) (meth := k9m2) (c := k9c2) (by decide +kernel) rfl rfl rfl (by decide +kernel)
set_option maxRecDepth 65536 in
theorem w_c10 : (Jvm.Cond.code ({ cls := "java/lang/String", name := "<init>", desc := "([BB)V" } : Jvm.MethodName) jdk_42_method_151_code (3 : Nat) (Option.none : Option Jvm.ClassFile.FieldType)).before args0 about1 = true := code_word (m := ⟨7, 4⟩) (meth := k7m4) (c := k7c4) (by decide +kernel) rfl rfl rfl (by decide +kernel)
set_option maxRecDepth 65536 in
theorem w_c11 : (Jvm.Cond.code ({ cls := "java/lang/Integer", name := "valueOf", desc := "(I)Ljava/lang/Integer;" } : Jvm.MethodName) jdk_33_method_22_code (1 : Nat) (Option.some (Jvm.ClassFile.FieldType.object "java/lang/Integer"))).before args0 about1 = true := code_word (m := ⟨11, 0⟩) (meth := k11m0) (c := k11c0) (by decide +kernel) rfl rfl rfl (by decide +kernel)
set_option maxRecDepth 65536 in
theorem w_c12 : (Jvm.Cond.code ({ cls := "com/example/durable_state/durablestate/io/MarkedValue", name := "unmarked", desc := "(Ljava/lang/Object;)Ljava/lang/Object;" } : Jvm.MethodName) prog_10_method_2_code (1 : Nat) (Option.some (Jvm.ClassFile.FieldType.object "java/lang/Object"))).before args0 about1 = true := code_word (m := ⟨13, 1⟩) (meth := k13m1) (c := k13c1) (by decide +kernel) rfl rfl rfl (by decide +kernel)
set_option maxRecDepth 65536 in
theorem w_c13 : (Jvm.Cond.code ({ cls := "com/example/durable_state/durablestate/io/MarkedValue", name := "<init>", desc := "(Ljava/lang/String;Ljava/lang/Object;)V" } : Jvm.MethodName) prog_10_method_1_code (3 : Nat) (Option.none : Option Jvm.ClassFile.FieldType)).before args0 about1 = true := code_word (m := ⟨13, 0⟩) (meth := k13m0) (c := k13c0) (by decide +kernel) rfl rfl rfl (by decide +kernel)
set_option maxRecDepth 65536 in
theorem w_c14 : (Jvm.Cond.code ({ cls := "java/util/Objects", name := "requireNonNull", desc := "(Ljava/lang/Object;)Ljava/lang/Object;" } : Jvm.MethodName) jdk_31_method_10_code (1 : Nat) (Option.some (Jvm.ClassFile.FieldType.object "java/lang/Object"))).before args0 about1 = true := code_word (m := ⟨14, 1⟩) (meth := k14m1) (c := k14c1) (by decide +kernel) rfl rfl rfl (by decide +kernel)
set_option maxRecDepth 65536 in
theorem w_c15 : (Jvm.Cond.code ({ cls := "java/lang/Integer", name := "<init>", desc := "(I)V" } : Jvm.MethodName) jdk_33_method_23_code (2 : Nat) (Option.none : Option Jvm.ClassFile.FieldType)).before args0 about1 = true := code_word (m := ⟨11, 1⟩) (meth := k11m1) (c := k11c1) (by decide +kernel) rfl rfl rfl (by decide +kernel)
set_option maxRecDepth 65536 in
theorem w_c16 : (Jvm.Cond.code ({ cls := "java/lang/Number", name := "<init>", desc := "()V" } : Jvm.MethodName) jdk_18_method_1_code (1 : Nat) (Option.none : Option Jvm.ClassFile.FieldType)).before args0 about1 = true := code_word (m := ⟨10, 0⟩) (meth := k10m0) (c := k10c0) (by decide +kernel) rfl rfl rfl (by decide +kernel)
def codes1 : List Jvm.Cond := [Jvm.Cond.code x code maxLocals ret, Jvm.Cond.code ({ cls := "java/lang/String", name := "<init>", desc := "([C)V" } : Jvm.MethodName) jdk_42_method_3_code (2 : Nat) (Option.none : Option Jvm.ClassFile.FieldType), Jvm.Cond.code ({ cls := "java/lang/String", name := "<init>", desc := "([CIILjava/lang/Void;)V" } : Jvm.MethodName) jdk_42_method_149_code (6 : Nat) (Option.none : Option Jvm.ClassFile.FieldType), Jvm.Cond.code ({ cls := "java/lang/Object", name := "<init>", desc := "()V" } : Jvm.MethodName) object_method_1_code (1 : Nat) (Option.none : Option Jvm.ClassFile.FieldType), Jvm.Cond.code ({ cls := "java/lang/StringUTF16", name := "compress", desc := "([CII)[B" } : Jvm.MethodName) jdk_52_method_16_code (6 : Nat) (Option.some (Jvm.ClassFile.FieldType.array Jvm.ClassFile.FieldType.byte)), Jvm.Cond.code ({ cls := "java/lang/StringUTF16", name := "compress", desc := "([CI[BII)I" } : Jvm.MethodName) jdk_52_method_21_code (7 : Nat) (Option.some Jvm.ClassFile.FieldType.int), Jvm.Cond.code ({ cls := "java/lang/StringUTF16", name := "coderFromArrayLen", desc := "([BI)B" } : Jvm.MethodName) jdk_52_method_15_code (2 : Nat) (Option.some Jvm.ClassFile.FieldType.byte), Jvm.Cond.code ({ cls := "java/lang/String", name := "valueOf", desc := "(C)Ljava/lang/String;" } : Jvm.MethodName) jdk_42_method_139_code (1 : Nat) (Option.some (Jvm.ClassFile.FieldType.object "java/lang/String")), Jvm.Cond.code ({ cls := "java/lang/StringLatin1", name := "canEncode", desc := "(C)Z" } : Jvm.MethodName) jdk_43_method_3_code (1 : Nat) (Option.some Jvm.ClassFile.FieldType.boolean), Jvm.Cond.code ({ cls := "java/lang/StringLatin1", name := "toBytes", desc := "(C)[B" } : Jvm.MethodName) jdk_43_method_46_code (1 : Nat) (Option.some (Jvm.ClassFile.FieldType.array Jvm.ClassFile.FieldType.byte)), Jvm.Cond.code ({ cls := "java/lang/String", name := "<init>", desc := "([BB)V" } : Jvm.MethodName) jdk_42_method_151_code (3 : Nat) (Option.none : Option Jvm.ClassFile.FieldType), Jvm.Cond.code ({ cls := "java/lang/Integer", name := "valueOf", desc := "(I)Ljava/lang/Integer;" } : Jvm.MethodName) jdk_33_method_22_code (1 : Nat) (Option.some (Jvm.ClassFile.FieldType.object "java/lang/Integer")), Jvm.Cond.code ({ cls := "com/example/durable_state/durablestate/io/MarkedValue", name := "unmarked", desc := "(Ljava/lang/Object;)Ljava/lang/Object;" } : Jvm.MethodName) prog_10_method_2_code (1 : Nat) (Option.some (Jvm.ClassFile.FieldType.object "java/lang/Object")), Jvm.Cond.code ({ cls := "com/example/durable_state/durablestate/io/MarkedValue", name := "<init>", desc := "(Ljava/lang/String;Ljava/lang/Object;)V" } : Jvm.MethodName) prog_10_method_1_code (3 : Nat) (Option.none : Option Jvm.ClassFile.FieldType), Jvm.Cond.code ({ cls := "java/util/Objects", name := "requireNonNull", desc := "(Ljava/lang/Object;)Ljava/lang/Object;" } : Jvm.MethodName) jdk_31_method_10_code (1 : Nat) (Option.some (Jvm.ClassFile.FieldType.object "java/lang/Object")), Jvm.Cond.code ({ cls := "java/lang/Integer", name := "<init>", desc := "(I)V" } : Jvm.MethodName) jdk_33_method_23_code (2 : Nat) (Option.none : Option Jvm.ClassFile.FieldType), Jvm.Cond.code ({ cls := "java/lang/Number", name := "<init>", desc := "()V" } : Jvm.MethodName) jdk_18_method_1_code (1 : Nat) (Option.none : Option Jvm.ClassFile.FieldType)]
set_option maxRecDepth 65536 in
theorem codes_eq : words1.filter isCode = codes1 := rfl
theorem w_codes : ∀ c ∈ words1.filter isCode, c.before args0 about1 = true := by
  rw [codes_eq]
  intro c hc
  simp only [codes1, List.mem_cons, List.not_mem_nil, or_false] at hc
  rcases hc with rfl | rfl | rfl | rfl | rfl | rfl | rfl | rfl | rfl | rfl | rfl | rfl | rfl | rfl | rfl | rfl | rfl
  · exact w_c0
  · exact w_c1
  · exact w_c2
  · exact w_c3
  · exact w_c4
  · exact w_c5
  · exact w_c6
  · exact w_c7
  · exact w_c8
  · exact w_c9
  · exact w_c10
  · exact w_c11
  · exact w_c12
  · exact w_c13
  · exact w_c14
  · exact w_c15
  · exact w_c16
set_option maxRecDepth 65536 in
theorem w_t1 : (words1.take 24).all (fun c => isCode c || c.before args0 about1) = true := by decide +kernel
set_option maxRecDepth 65536 in
theorem w_t2 : ((words1.drop 24).take 24).all (fun c => isCode c || c.before args0 about1) = true := by decide +kernel
set_option maxRecDepth 65536 in
theorem w_t3 : (((words1.drop 24).drop 24).take 24).all (fun c => isCode c || c.before args0 about1) = true := by decide +kernel
set_option maxRecDepth 65536 in
theorem w_t4 : (((words1.drop 24).drop 24).drop 24).all (fun c => isCode c || c.before args0 about1) = true := by decide +kernel
theorem w_tables : (allAtoms (Jvm.Cond.code x code maxLocals ret :: tables_1)).before args0 about1 = true := by
  rw [allAtoms_all]
  show words1.all (fun c => c.before args0 about1) = true
  refine all_split ?_ w_codes
  rw [← List.take_append_drop 24 words1, List.all_append, w_t1, ← List.take_append_drop 24 (words1.drop 24), List.all_append, w_t2, ← List.take_append_drop 24 ((words1.drop 24).drop 24), List.all_append, w_t3, w_t4]
  rfl
set_option maxRecDepth 65536 in
theorem w_rest : rest_1_c.before args0 about1 = true := by decide +kernel
set_option maxRecDepth 65536 in
theorem w_case : (Jvm.Cond.and given_1 narrow_1).before args0 about1 = true := by decide +kernel
theorem w_applies : (headSpec (Jvm.Cond.code x code maxLocals ret :: tables_1) room_1).applies x e0.platform about1 = true :=
  (Spec.applies_iff w_frames).mpr ⟨w_running, w_runnable, w_alone, w_named, w_hears, w_ripe, w_room, w_tables⟩
theorem atStart : AtStart classFile x code maxLocals ret World_1 tables_1 room_1 Calls_1 rest_1 Pre_1 launch0 p0 e0 about1 theMethod args0 below0 :=
  ⟨lists_1, trivial, launch0.admits_env _ _ _, launch0.least_env, fairChoices_fair.cas, fairChoices_fair.clock, w_frames, w_args, w_heap, w_applies, trivial, w_rest, w_case⟩
end start1
theorem witness_1 : WitnessClaimed_1 := ⟨start1.p0, start1.e0, start1.about1, start1.theMethod, start1.args0, start1.below0, start1.atStart⟩
end Jvm.Pilot.@@N@@
