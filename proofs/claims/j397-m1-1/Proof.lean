import JvmDerived
import JvmDerived.Pilot.@@N@@Statement
import JvmDerived.Pilot.@@N@@Code
set_option linter.unusedVariables false
set_option linter.unusedSimpArgs false
namespace Jvm.Pilot.@@N@@
open Jvm Jvm.ClassFile Sem Op Lib Jvm.Free Jvm.Stand Jvm.LawKit Jvm.RoadKit Bundle Jvm.Pilot.@@N@@.Jvm.D
section Own
variable {p : Program} {l : Launch} {e : Env} {R : Room} {s : State} {m : MethodId} {args : Array Value} {below : List Frame} {meth : Method} {c : Code} {T : State} {locs : List Loc} {cells slots : Nat} {Z : State} {a0 : Array Value} {h h' : Heap} {Q : Option Value → Heap → List Loc → Prop} {rc rs : Nat}
/-- from here the run comes to its return, and what it leaves is Q -/
def Ends (p : Program) (e : Env) (below : List Frame) (s : State) (Q : Option Value → Heap → List Loc → Prop) (rc rs : Nat) (T : State) (g : JFrame) : Prop :=
  ∃ s₂ o, Steps p.tables e below (T.setTop g) s₂ ∧ s₂.status = .running ∧ Ended s₂ below o ∧ ∃ v L, o = .returned v ∧ Q v s₂.heap L ∧ FrameEnd s o s₂ L rc rs
theorem go {T' : State} {g g' : JFrame} (f : ∀ t, Steps p.tables e below (T'.setTop g') t → Steps p.tables e below (T.setTop g) t) (k : Ends p e below s Q rc rs T' g') : Ends p e below s Q rc rs T g := by
  obtain ⟨s₂, o, h1, r⟩ := k
  exact ⟨s₂, o, f _ h1, r⟩
theorem goS {T' : State} {g g' : JFrame} (f : Steps p.tables e below (T.setTop g) (T'.setTop g')) (k : Ends p e below s Q rc rs T' g') : Ends p e below s Q rc rs T g := by
  obtain ⟨s₂, o, h1, r⟩ := k
  exact ⟨s₂, o, f.trans h1, r⟩
theorem retI (X : Stand p l e R s m args below meth c T locs cells slots) (hx : p.tables.exec = Jvm.exec) {pc : Nat} {Ls : Array Slot} {z : Int32} {rest : List Value} (hret : meth.sig.returnType = some .int) (hd : decode c.code pc = .ok (.ireturn, 1)) {fs : List Frame}
    (hl : ∀ (f : JFrame) (acts : List Action), f.method = m → f.locked = none → f.entered = [] → (doReturn e (T.setTop f) acts (some (.int z))).1 = T.setFrames fs) : Steps p.tables e below (T.setTop (mkF m pc Ls (.int z :: rest))) (T.setFrames fs) := by
  have hm' : T.vm.method? m = some meth := X.method'
  have hn : narrow .int (.int z) = .int z := rfl
  show Steps p.tables e below (T.setTop { method := m, pc := pc, locals := Ls, stack := _ :: rest, locked := none }) _
  jvm_step X.here [X.here.top, hx, hd, hm', hret, hn]
  first | (intro acts; rw [hl _ acts rfl rfl rfl]) | rw [hl _ _ rfl rfl rfl]
  exact Steps.refl _
theorem endI (X : Stand p l e R s m args below meth c T locs cells slots) (hx : p.tables.exec = Jvm.exec) (hlk : meth.locks = false) {pc : Nat} {Ls : Array Slot} {z : Int32} {rest : List Value} (hret : meth.sig.returnType = some .int) (hd : decode c.code pc = .ok (.ireturn, 1)) (eT : T.heap = h) (hq : Q (some (.int z)) h locs) (hc : cells ≤ rc) (hs : slots ≤ rs) :
    Ends p e below s Q rc rs T (mkF m pc Ls (.int z :: rest)) := by
  subst eT
  obtain ⟨fs, hr, hrun, hended, hW, hsame⟩ := X.leave (v := some (.int z)) (fun h => by rw [hret] at h; cases h) hlk
  exact ⟨_, _, retI X hx hret hd hr, hrun, hended, _, _, rfl, hq, ⟨_, rfl⟩, hW, hsame.mono hc hs⟩
/-- a boolean, byte, char or short: what is returned is narrowed -/
theorem endN (X : Stand p l e R s m args below meth c T locs cells slots) (hx : p.tables.exec = Jvm.exec) (hlk : meth.locks = false) {pc : Nat} {Ls : Array Slot} {z : Int32} {t : FieldType} {rest : List Value} (hret : meth.sig.returnType = some t) (ht : t = .boolean ∨ t = .byte ∨ t = .char ∨ t = .short) (hd : decode c.code pc = .ok (.ireturn, 1)) (eT : T.heap = h) (hq : Q (some (.int (nar t z))) h locs) (hc : cells ≤ rc) (hs : slots ≤ rs) :
    Ends p e below s Q rc rs T (mkF m pc Ls (.int z :: rest)) := by
  subst eT
  obtain ⟨fs, hr, hrun, hended, hW, hsame⟩ := X.leave (v := some (.int (nar t z))) (fun h => by rw [hret] at h; cases h) hlk
  exact ⟨_, _, retN X hx hret ht hd hr, hrun, hended, _, _, rfl, hq, ⟨_, rfl⟩, hW, hsame.mono hc hs⟩
theorem endA (X : Stand p l e R s m args below meth c T locs cells slots) (hx : p.tables.exec = Jvm.exec) (hlk : meth.locks = false) {pc : Nat} {Ls : Array Slot} {w : Value} {t : FieldType} {rest : List Value} (hret : meth.sig.returnType = some t) (ht : t.isReference = true) (hw : w.isRef = true) (hd : decode c.code pc = .ok (.areturn, 1)) (eT : T.heap = h) (hq : Q (some w) h locs) (hc : cells ≤ rc) (hs : slots ≤ rs) :
    Ends p e below s Q rc rs T (mkF m pc Ls (w :: rest)) := by
  subst eT
  obtain ⟨fs, hr, hrun, hended, hW, hsame⟩ := X.leave (v := some w) (fun h => by rw [hret] at h; cases h) hlk
  have hn : narrow t w = w := by rcases ref_cases hw with rfl | ⟨b, rfl⟩ <;> cases t <;> rfl
  exact ⟨_, _, retOut X hx hret hn (Or.inr (Or.inr (Or.inr (Or.inr ⟨rfl, ht, hw⟩)))) hd hr, hrun, hended, _, _, rfl, hq, ⟨_, rfl⟩, hW, hsame.mono hc hs⟩
theorem endJ (X : Stand p l e R s m args below meth c T locs cells slots) (hx : p.tables.exec = Jvm.exec) (hlk : meth.locks = false) {pc : Nat} {Ls : Array Slot} {z : Int64} {rest : List Value} (hret : meth.sig.returnType = some .long) (hd : decode c.code pc = .ok (.lreturn, 1)) (eT : T.heap = h) (hq : Q (some (.long z)) h locs) (hc : cells ≤ rc) (hs : slots ≤ rs) :
    Ends p e below s Q rc rs T (mkF m pc Ls (.long z :: rest)) := by
  subst eT
  obtain ⟨fs, hr, hrun, hended, hW, hsame⟩ := X.leave (v := some (.long z)) (fun h => by rw [hret] at h; cases h) hlk
  exact ⟨_, _, retOut X hx hret rfl (Or.inr (Or.inl ⟨rfl, rfl, z, rfl⟩)) hd hr, hrun, hended, _, _, rfl, hq, ⟨_, rfl⟩, hW, hsame.mono hc hs⟩
theorem endV (X : Stand p l e R s m args below meth c T locs cells slots) (hx : p.tables.exec = Jvm.exec) (hlk : meth.locks = false) {pc : Nat} {Ls : Array Slot} (hret : meth.sig.returnType = none) (hd : decode c.code pc = .ok (.return_, 1)) (eT : T.heap = h) (hq : Q none h locs) (hc : cells ≤ rc) (hs : slots ≤ rs) :
    Ends p e below s Q rc rs T (mkF m pc Ls []) := by
  subst eT
  obtain ⟨fs, hr, hrun, hended, hW, hsame⟩ := X.leave (v := none) (fun _ => rfl) hlk
  exact ⟨_, _, X.returnOut hx hret hd hr, hrun, hended, _, _, rfl, hq, ⟨_, rfl⟩, hW, hsame.mono hc hs⟩
/-- a method's contract, at one heap and one list of arguments -/
def Con (l : Launch) (y : MethodName) (bytes : ByteArray) (maxL : Nat) (ret : Option FieldType) (rm : Room) (Z : State) (as' : Array Value) (h0 : Heap) (Q : Option Value → Heap → List Loc → Prop) : Prop :=
  ∀ ws, MetFree l y (head1 (Jvm.Cond.code y bytes maxL ret :: ws) rm) (fun a U => a = as' ∧ Z.Warmed39 U.vm ∧ U.heap = h0) (fun _ _ _ _ _ => True) (fun _ U o U' => ∃ v L, o = .returned v ∧ Q v U'.heap L ∧ FrameEnd U o U' L rm.cells rm.slots)
theorem Con.of {y : MethodName} {bytes : ByteArray} {maxL : Nat} {ret : Option FieldType} {rm : Room} {as' : Array Value} {h0 : Heap} (hp : plainFor y = true) {Ls : Array Slot} (hef : ∀ m, entryFrame m as' maxL = mkF m 0 Ls [])
    (body : ∀ {p : Program} {e : Env} {s : State} {m : MethodId} {below : List Frame} {meth : Method} {c : Code} {T : State}, Stand p l e rm s m as' below meth c T [] 0 0 → p.tables.exec = Jvm.exec → Z.Warmed39 s.vm → c.code = bytes → c.maxLocals = maxL → s.vm.findClass y.cls = some m.cls → meth.name = y.name → meth.sig.returnType = ret → meth.locks = false → T.heap = h0 → Ends p e below s Q rm.cells rm.slots T (mkF m 0 Ls [])) :
    Con l y bytes maxL ret rm Z as' h0 Q := by
  intro ws
  refine MetFree.of_bodySF hp hisR ?_
  intro p e s m args below meth c s₁ Bd hml0 hP hK
  obtain ⟨rfl, hZ, hh⟩ := hP
  have X0 : Stand p l e rm s m _ below meth c s₁ [] 0 0 := Stand.of_body Bd
  have e0 : s₁.heap = h0 := by rw [← hh, Bd.state]; rfl
  obtain ⟨s₂, o, h1, r⟩ := body X0 Bd.exec hZ Bd.bytes hml0 (findClass_of_methodNamed Bd.named) (name_of_methodNamed Bd.named Bd.method).1 Bd.returns Bd.notSynchronized e0
  exact ⟨s₂, o, castTop (hef m) h1, r⟩
theorem cStat {own : String} {index : Nat} {y : MethodName} {bytes : ByteArray} {maxL : Nat} {ret : Option FieldType} {rm : Room} {Q' : Option Value → Heap → List Loc → Prop} {pc : Nat} {Ls : Array Slot} {st : List Value}
    (X : Stand p l e R s m args below meth c T locs cells slots) (hx : p.tables.exec = Jvm.exec) (hZ : Z.Warmed39 s.vm) (hown : s.vm.findClass own = some m.cls) (hml : Ls.size = c.maxLocals) (eT : T.heap = h)
    (w1 : (Cond.methodLink own index y).before a0 Z = true) (w2 : (Cond.static y).before a0 Z = true) (w3 : (Cond.initialized y.cls).before a0 Z = true) (w4 : (Cond.code y bytes maxL ret).before a0 Z = true)
    (argsL rest : List Value) {as' : Array Value} (has : argsL.toArray = as') (hM : Con l y bytes maxL ret rm Z as' h Q') (hd : decode c.code pc = .ok (.invokestatic index, 3)) (hst : st = argsL.reverse ++ rest)
    (hlen : ∀ sig, parseMethodDescriptor y.desc = some sig → argsL.length = sig.parameters.length) (hy : y.cls ≠ "java/lang/invoke/MethodHandle" ∧ y.cls ≠ "java/lang/invoke/VarHandle")
    (hf : rm.frames + 1 ≤ R.frames) (hl : (rest.map fun v => v.category).sum + (maxL + 11) + rm.locals ≤ R.locals) (hc : cells + rm.cells ≤ R.cells) (hs : slots + rm.slots ≤ R.slots)
    (k : ∀ v T' h' L, Stand p l e R s m args below meth c T' (locs ++ L) (cells + rm.cells) (slots + rm.slots) → T'.heap = h' → Q' v h' L → Ends p e below s Q rc rs T' (mkF m (pc + 3) Ls (v.toList ++ rest))) :
    Ends p e below s Q rc rs T (mkF m pc Ls st) := by
  subst has
  obtain ⟨v, _, ⟨T', L', k', n'⟩, -, X', ⟨Lc, hQ, e1, e2, e3⟩, stp⟩ := Jvm.LawKit.callS X hx (y := y) hown (mvT hZ w1) (mvT hZ w2) (mvT hZ w3) (mvT hZ w4) hy (backOf (W := (rest.map fun v => v.category).sum) (hM []) hZ w4 w3 hf hl) (g := mkF m pc Ls st) rfl hml (argsL := argsL) (rest := rest) hlen hst (by show 2 * 0 + _ ≤ _; omega) hd (fun _ _ => ⟨rfl, eT, hc, hs⟩)
  dsimp only [Pt.U, Pt.locs, Pt.cells, Pt.slots] at X' e1 e2 e3 stp hQ
  subst e1 e2 e3
  exact go stp (k v T' _ Lc X' rfl hQ)
theorem cInit {own : String} {index : Nat} {y : MethodName} {bytes : ByteArray} {maxL : Nat} {rm : Room} {Q' : Option Value → Heap → List Loc → Prop} {pc : Nat} {Ls : Array Slot} {st : List Value}
    (X : Stand p l e R s m args below meth c T locs cells slots) (hx : p.tables.exec = Jvm.exec) (hZ : Z.Warmed39 s.vm) (hown : s.vm.findClass own = some m.cls) (hml : Ls.size = c.maxLocals) (eT : T.heap = h)
    (w1 : (Cond.methodLink own index y).before a0 Z = true) (w2 : (Cond.instanceMethod y).before a0 Z = true) (w3 : (Cond.initialized y.cls).before a0 Z = true) (w4 : (Cond.code y bytes maxL none).before a0 Z = true)
    (a : Addr) (argsL rest : List Value) {as' : Array Value} (has : (.ref a :: argsL).toArray = as') (hM : Con l y bytes maxL none rm Z as' h Q') (hd : decode c.code pc = .ok (.invokespecial index, 3)) (hst : st = argsL.reverse ++ .ref a :: rest)
    (hlen : ∀ sig, parseMethodDescriptor y.desc = some sig → argsL.length = sig.parameters.length) (hy1 : y.name = "<init>") (hy : y.cls ≠ "java/lang/invoke/MethodHandle" ∧ y.cls ≠ "java/lang/invoke/VarHandle")
    (hf : rm.frames + 1 ≤ R.frames) (hl : (rest.map fun v => v.category).sum + (maxL + 11) + rm.locals ≤ R.locals) (hc : cells + rm.cells ≤ R.cells) (hs : slots + rm.slots ≤ R.slots)
    (k : ∀ v T' h' L, Stand p l e R s m args below meth c T' (locs ++ L) (cells + rm.cells) (slots + rm.slots) → T'.heap = h' → Q' v h' L → Ends p e below s Q rc rs T' (mkF m (pc + 3) Ls (v.toList ++ rest))) :
    Ends p e below s Q rc rs T (mkF m pc Ls st) := by
  subst has
  obtain ⟨v, _, ⟨T', L', k', n'⟩, -, X', ⟨Lc, hQ, e1, e2, e3⟩, stp⟩ := X.specialBack hx (y := y) hy1 hown (mvT hZ w1) (mvT hZ w2) (mvT hZ w4) hy (backOf (W := (rest.map fun v => v.category).sum) (hM []) hZ w4 w3 hf hl) (g := mkF m pc Ls st) rfl hml (Steps.refl _) (a := a) (argsL := argsL) (rest := rest) hlen hst (by show 2 * 0 + _ ≤ _; omega) hd (fun _ _ => ⟨rfl, eT, hc, hs⟩)
  dsimp only [Pt.U, Pt.locs, Pt.cells, Pt.slots] at X' e1 e2 e3 stp hQ
  subst e1 e2 e3
  exact goS stp (k v T' _ Lc X' rfl hQ)
theorem cVirt {own K : String} {index : Nat} {y z : MethodName} {bytes : ByteArray} {maxL : Nat} {ret : Option FieldType} {rm : Room} {Q' : Option Value → Heap → List Loc → Prop} {pc : Nat} {Ls : Array Slot} {st : List Value}
    (X : Stand p l e R s m args below meth c T locs cells slots) (hx : p.tables.exec = Jvm.exec) (hZ : Z.Warmed39 s.vm) (hown : s.vm.findClass own = some m.cls) (hml : Ls.size = c.maxLocals) (eT : T.heap = h)
    (w1 : (Cond.methodLink own index y).before a0 Z = true) (w2 : (Cond.declares y).before a0 Z = true) (w3 : (Cond.selects K y z).before a0 Z = true) (w4 : (Cond.instanceMethod z).before a0 Z = true) (w5 : (Cond.initialized z.cls).before a0 Z = true) (w6 : (Cond.code z bytes maxL ret).before a0 Z = true) (hnf : NotFace s y)
    (a : Addr) (E : Exa Z h a K) (argsL rest : List Value) {as' : Array Value} (has : (.ref a :: argsL).toArray = as') (hM : Con l z bytes maxL ret rm Z as' h Q') (hd : decode c.code pc = .ok (.invokevirtual index, 3)) (hst : st = argsL.reverse ++ .ref a :: rest)
    (hlen : ∀ sig, parseMethodDescriptor y.desc = some sig → argsL.length = sig.parameters.length) (hy : y.cls ≠ "java/lang/invoke/MethodHandle" ∧ y.cls ≠ "java/lang/invoke/VarHandle")
    (hf : rm.frames + 1 ≤ R.frames) (hl : (rest.map fun v => v.category).sum + (maxL + 11) + rm.locals ≤ R.locals) (hc : cells + rm.cells ≤ R.cells) (hs : slots + rm.slots ≤ R.slots)
    (k : ∀ v T' h' L, Stand p l e R s m args below meth c T' (locs ++ L) (cells + rm.cells) (slots + rm.slots) → T'.heap = h' → Q' v h' L → Ends p e below s Q rc rs T' (mkF m (pc + 3) Ls (v.toList ++ rest))) :
    Ends p e below s Q rc rs T (mkF m pc Ls st) := by
  subst has
  obtain ⟨cq, kq, qa, qb, qc⟩ := isOf hZ eT E
  obtain ⟨v, _, ⟨T', L', k', n'⟩, -, X', ⟨Lc, hQ, e1, e2, e3⟩, stp⟩ := X.virtualBack hx (y := y) (z := z) hown (mvT hZ w1) (mvT hZ w2) hnf (mvT hZ w3) (mvT hZ w4) hy (backOf (W := (rest.map fun v => v.category).sum) (hM []) hZ w6 w5 hf hl) qa qc (g := mkF m pc Ls st) rfl hml (Steps.refl _) (argsL := argsL) (rest := rest) hlen hst (by show 2 * 0 + _ ≤ _; omega) hd (fun _ _ => ⟨rfl, eT, hc, hs⟩)
  dsimp only [Pt.U, Pt.locs, Pt.cells, Pt.slots] at X' e1 e2 e3 stp hQ
  subst e1 e2 e3
  exact goS stp (k v T' _ Lc X' rfl hQ)
theorem cFace {own K : String} {index count : Nat} {y z : MethodName} {bytes : ByteArray} {maxL : Nat} {ret : Option FieldType} {rm : Room} {Q' : Option Value → Heap → List Loc → Prop} {pc : Nat} {Ls : Array Slot} {st : List Value}
    (X : Stand p l e R s m args below meth c T locs cells slots) (hx : p.tables.exec = Jvm.exec) (hZ : Z.Warmed39 s.vm) (hown : s.vm.findClass own = some m.cls) (hml : Ls.size = c.maxLocals) (eT : T.heap = h)
    (w1 : (Cond.methodLink own index y).before a0 Z = true) (w2 : (Cond.declares y).before a0 Z = true) (wf : (Cond.interfaceMethod y.cls y.cls y.name y.desc).before args s = true) (w3 : (Cond.selects K y z).before a0 Z = true) (w4 : (Cond.instanceMethod z).before a0 Z = true) (wp : (Cond.publicMethod z).before a0 Z = true) (wu : (Cond.unhidden K y.name y.desc).before args s = true) (wc : (Cond.castable K y.cls).before a0 Z = true) (w5 : (Cond.initialized z.cls).before a0 Z = true) (w6 : (Cond.code z bytes maxL ret).before a0 Z = true)
    (a : Addr) (E : Exa Z h a K) (argsL rest : List Value) {as' : Array Value} (has : (.ref a :: argsL).toArray = as') (hM : Con l z bytes maxL ret rm Z as' h Q') (hd : decode c.code pc = .ok (.invokeinterface index count, 5)) (hst : st = argsL.reverse ++ .ref a :: rest)
    (hlen : ∀ sig, parseMethodDescriptor y.desc = some sig → argsL.length = sig.parameters.length) (hy : y.cls ≠ "java/lang/invoke/MethodHandle" ∧ y.cls ≠ "java/lang/invoke/VarHandle")
    (hf : rm.frames + 1 ≤ R.frames) (hl : (rest.map fun v => v.category).sum + (maxL + 11) + rm.locals ≤ R.locals) (hc : cells + rm.cells ≤ R.cells) (hs : slots + rm.slots ≤ R.slots)
    (k : ∀ v T' h' L, Stand p l e R s m args below meth c T' (locs ++ L) (cells + rm.cells) (slots + rm.slots) → T'.heap = h' → Q' v h' L → Ends p e below s Q rc rs T' (mkF m (pc + 5) Ls (v.toList ++ rest))) :
    Ends p e below s Q rc rs T (mkF m pc Ls st) := by
  subst has
  obtain ⟨cq, kq, qa, qb, qc⟩ := isOf hZ eT E
  obtain ⟨v, _, ⟨T', L', k', n'⟩, -, X', ⟨Lc, hQ, e1, e2, e3⟩, stp⟩ := X.interfaceBack hx (xi := y) (y := z) hown (mvT hZ w1) (mvT hZ w2) wf (mvT hZ w3) (mvT hZ w4) (mvT hZ wp) wu (mvT hZ wc) hy (backOf (W := (rest.map fun v => v.category).sum) (hM []) hZ w6 w5 hf hl) qa qb qc (g := mkF m pc Ls st) rfl hml (Steps.refl _) (argsL := argsL) (rest := rest) hlen hst (by show 2 * 0 + _ ≤ _; omega) hd (fun _ _ => ⟨rfl, eT, hc, hs⟩)
  dsimp only [Pt.U, Pt.locs, Pt.cells, Pt.slots] at X' e1 e2 e3 stp hQ
  subst e1 e2 e3
  exact goS stp (k v T' _ Lc X' rfl hQ)
theorem xx (O : Ext Z.heap h) (E : Ext h h') : Ext Z.heap h' := ⟨Nat.le_trans O.1 E.1, fun a c q => E.2 _ _ (O.2 _ _ q)⟩
theorem xk {ws : List Addr} (O : Ext Z.heap h) (K : Keep h h' ws) (q : ∀ x ∈ ws, Z.heap.size ≤ x) : Ext Z.heap h' := (Old.keep ⟨rfl, O⟩ K q).2
theorem xw {a : Addr} {sl : Nat} {v : Value} (O : Ext Z.heap h) (W : Wr h h' a sl v) (q : Z.heap.size ≤ a) : Ext Z.heap h' := (Old.wr ⟨rfl, O⟩ W q).2
theorem ke (E : Ext h h') : Keep h h' [] := (Keep.refl h []).ext E
theorem ek (K : Keep h h' []) : Ext h h' := ⟨K.1, fun a c q => K.2.1 a c q nin0⟩
end Own
theorem pn_0 : plainName "com/example/delayed_task_scheduler/delayedtaskscheduler/TaskStateIsLivePinLaw" = true := by first | (simp [plainName, overriddenIn]; done) | decide +kernel
theorem d_method_2_0 : decode method_2_code 0 = .ok (.iload_n 0, 1) := by decide +kernel
theorem d_method_2_1 : decode method_2_code 1 = .ok (.ifCond .ne 7, 3) := by decide +kernel
theorem d_method_2_4 : decode method_2_code 4 = .ok (.getstatic 7, 3) := by decide +kernel
theorem d_method_2_7 : decode method_2_code 7 = .ok (.areturn, 1) := by decide +kernel
theorem d_method_2_8 : decode method_2_code 8 = .ok (.iload_n 0, 1) := by decide +kernel
theorem d_method_2_9 : decode method_2_code 9 = .ok (.iconst 1, 1) := by decide +kernel
theorem d_method_2_10 : decode method_2_code 10 = .ok (.if_icmp .ne 7, 3) := by decide +kernel
theorem d_method_2_13 : decode method_2_code 13 = .ok (.getstatic 13, 3) := by decide +kernel
theorem d_method_2_16 : decode method_2_code 16 = .ok (.areturn, 1) := by decide +kernel
theorem d_method_2_17 : decode method_2_code 17 = .ok (.iload_n 0, 1) := by decide +kernel
theorem d_method_2_18 : decode method_2_code 18 = .ok (.iconst 2, 1) := by decide +kernel
theorem d_method_2_19 : decode method_2_code 19 = .ok (.if_icmp .ne 7, 3) := by decide +kernel
theorem d_method_2_22 : decode method_2_code 22 = .ok (.getstatic 16, 3) := by decide +kernel
theorem d_method_2_25 : decode method_2_code 25 = .ok (.areturn, 1) := by decide +kernel
theorem d_method_2_26 : decode method_2_code 26 = .ok (.iload_n 0, 1) := by decide +kernel
theorem d_method_2_27 : decode method_2_code 27 = .ok (.iconst 3, 1) := by decide +kernel
theorem d_method_2_28 : decode method_2_code 28 = .ok (.if_icmp .ne 7, 3) := by decide +kernel
theorem d_method_2_31 : decode method_2_code 31 = .ok (.getstatic 19, 3) := by decide +kernel
theorem d_method_2_34 : decode method_2_code 34 = .ok (.areturn, 1) := by decide +kernel
theorem d_method_2_35 : decode method_2_code 35 = .ok (.iload_n 0, 1) := by decide +kernel
theorem d_method_2_36 : decode method_2_code 36 = .ok (.iconst 4, 1) := by decide +kernel
theorem d_method_2_37 : decode method_2_code 37 = .ok (.if_icmp .ne 7, 3) := by decide +kernel
theorem d_method_2_40 : decode method_2_code 40 = .ok (.getstatic 22, 3) := by decide +kernel
theorem d_method_2_43 : decode method_2_code 43 = .ok (.areturn, 1) := by decide +kernel
theorem d_method_2_44 : decode method_2_code 44 = .ok (.getstatic 25, 3) := by decide +kernel
theorem d_method_2_47 : decode method_2_code 47 = .ok (.areturn, 1) := by decide +kernel
theorem d_method_3_0 : decode method_3_code 0 = .ok (.iload_n 0, 1) := by decide +kernel
theorem d_method_3_1 : decode method_3_code 1 = .ok (.ifCond .ne 5, 3) := by decide +kernel
theorem d_method_3_4 : decode method_3_code 4 = .ok (.iconst 1, 1) := by decide +kernel
theorem d_method_3_5 : decode method_3_code 5 = .ok (.ireturn, 1) := by decide +kernel
theorem d_method_3_6 : decode method_3_code 6 = .ok (.iload_n 0, 1) := by decide +kernel
theorem d_method_3_7 : decode method_3_code 7 = .ok (.iconst 1, 1) := by decide +kernel
theorem d_method_3_8 : decode method_3_code 8 = .ok (.if_icmp .ne 5, 3) := by decide +kernel
theorem d_method_3_11 : decode method_3_code 11 = .ok (.iconst 1, 1) := by decide +kernel
theorem d_method_3_12 : decode method_3_code 12 = .ok (.ireturn, 1) := by decide +kernel
theorem d_method_3_13 : decode method_3_code 13 = .ok (.iload_n 0, 1) := by decide +kernel
theorem d_method_3_14 : decode method_3_code 14 = .ok (.iconst 3, 1) := by decide +kernel
theorem d_method_3_15 : decode method_3_code 15 = .ok (.if_icmp .ne 5, 3) := by decide +kernel
theorem d_method_3_18 : decode method_3_code 18 = .ok (.iconst 1, 1) := by decide +kernel
theorem d_method_3_19 : decode method_3_code 19 = .ok (.ireturn, 1) := by decide +kernel
theorem d_method_3_20 : decode method_3_code 20 = .ok (.iconst 0, 1) := by decide +kernel
theorem d_method_3_21 : decode method_3_code 21 = .ok (.ireturn, 1) := by decide +kernel
theorem pn_1 : plainName "com/example/delayed_task_scheduler/delayedtaskscheduler/TaskState" = true := by first | (simp [plainName, overriddenIn]; done) | decide +kernel
theorem d_prog_13_method_4_0 : decode prog_13_method_4_code 0 = .ok (.aload_n 0, 1) := by decide +kernel
theorem d_prog_13_method_4_1 : decode prog_13_method_4_code 1 = .ok (.getstatic 3, 3) := by decide +kernel
theorem d_prog_13_method_4_4 : decode prog_13_method_4_code 4 = .ok (.if_acmp .eq 17, 3) := by decide +kernel
theorem d_prog_13_method_4_21 : decode prog_13_method_4_code 21 = .ok (.iconst 1, 1) := by decide +kernel
theorem d_prog_13_method_4_22 : decode prog_13_method_4_code 22 = .ok (.goto 4, 3) := by decide +kernel
theorem d_prog_13_method_4_26 : decode prog_13_method_4_code 26 = .ok (.ireturn, 1) := by decide +kernel
theorem d_prog_13_method_4_7 : decode prog_13_method_4_code 7 = .ok (.aload_n 0, 1) := by decide +kernel
theorem d_prog_13_method_4_8 : decode prog_13_method_4_code 8 = .ok (.getstatic 7, 3) := by decide +kernel
theorem d_prog_13_method_4_11 : decode prog_13_method_4_code 11 = .ok (.if_acmp .eq 10, 3) := by decide +kernel
theorem d_prog_13_method_4_14 : decode prog_13_method_4_code 14 = .ok (.aload_n 0, 1) := by decide +kernel
theorem d_prog_13_method_4_15 : decode prog_13_method_4_code 15 = .ok (.getstatic 13, 3) := by decide +kernel
theorem d_prog_13_method_4_18 : decode prog_13_method_4_code 18 = .ok (.if_acmp .ne 7, 3) := by decide +kernel
theorem d_prog_13_method_4_25 : decode prog_13_method_4_code 25 = .ok (.iconst 0, 1) := by decide +kernel
theorem pd_2 : parseMethodDescriptor "(I)Lcom/example/delayed_task_scheduler/delayedtaskscheduler/TaskState;" = some ⟨[.int], some (.object "com/example/delayed_task_scheduler/delayedtaskscheduler/TaskState")⟩ := by decide +kernel
theorem pd_3 : parseMethodDescriptor "()Z" = some ⟨[], some .boolean⟩ := by decide +kernel
theorem pd_4 : parseMethodDescriptor "(I)Z" = some ⟨[.int], some .boolean⟩ := by decide +kernel
theorem own_ord {args : Array Value} {Z : State} {t : Term} {a : Addr} {C n d : String} {k : Int32} (ht : t.eval args Z none [] Z = some (.ref a)) (h : (Jvm.Cond.eq (.field t C n d) (.int k)).value args Z none Z [] = some true) : Fld Z Z.heap a C n d (.int k) := by
  obtain ⟨x, y, hx, hy, -, k2⟩ := cmp_v (Or.inl h)
  have e1 : y = .int k := Option.some.inj (hy.symm.trans (Term.int_eval k))
  subst e1
  obtain ⟨z, rfl⟩ := k2
  have hv := h
  simp [Cond.value, hx, hy] at hv
  subst hv
  rw [fld_at ht] at hx
  exact Fld.start hx
def pickA (k : Int32) (aI aR aS aF aD aC : Addr) : Addr := if k = 0 then aI else if k = 1 then aR else if k = 2 then aS else if k = 3 then aF else if k = 4 then aD else aC
def expI (k : Int32) : Int32 := if k = 0 then 1 else if k = 1 then 1 else if k = 3 then 1 else 0
def liveI (a aI aR aF : Addr) : Int32 := if a = aI then 1 else if a = aR then 1 else if a = aF then 1 else 0
theorem own_law (k : Int32) {aI aR aS aF aD aC : Addr} (h1 : aS ≠ aI) (h2 : aS ≠ aR) (h3 : aS ≠ aF) (h4 : aD ≠ aI) (h5 : aD ≠ aR) (h6 : aD ≠ aF) (h7 : aC ≠ aI) (h8 : aC ≠ aR) (h9 : aC ≠ aF) : liveI (pickA k aI aR aS aF aD aC) aI aR aF = expI k := by
  unfold liveI pickA expI
  by_cases k0 : k = 0
  · simp [k0]
  · by_cases k1 : k = 1
    · simp [k1]
    · by_cases k2 : k = 2
      · simp [k2, h1, h2, h3]
      · by_cases k3 : k = 3
        · simp [k3]
        · by_cases k4 : k = 4
          · simp [k4, h4, h5, h6]
          · simp [k0, k1, k2, k3, k4, h7, h8, h9]
set_option maxRecDepth 65536 in
set_option maxHeartbeats 40000000 in
theorem rm_pick {l : Launch} {Z : State} {a0 : Array Value} (hw : ∀ d ∈ tables_1, d.before a0 Z = true) (k : Int32) (aI aR aS aF aD aC : Addr) (h0 : Heap) (O0 : Ext Z.heap h0) (S_INIT : Sta Z Z.heap "com/example/delayed_task_scheduler/delayedtaskscheduler/TaskState" "INIT" "Lcom/example/delayed_task_scheduler/delayedtaskscheduler/TaskState;" (.ref aI)) (S_RUNNING : Sta Z Z.heap "com/example/delayed_task_scheduler/delayedtaskscheduler/TaskState" "RUNNING" "Lcom/example/delayed_task_scheduler/delayedtaskscheduler/TaskState;" (.ref aR)) (S_SUCCESS : Sta Z Z.heap "com/example/delayed_task_scheduler/delayedtaskscheduler/TaskState" "SUCCESS" "Lcom/example/delayed_task_scheduler/delayedtaskscheduler/TaskState;" (.ref aS)) (S_FAIL : Sta Z Z.heap "com/example/delayed_task_scheduler/delayedtaskscheduler/TaskState" "FAIL" "Lcom/example/delayed_task_scheduler/delayedtaskscheduler/TaskState;" (.ref aF)) (S_DEAD : Sta Z Z.heap "com/example/delayed_task_scheduler/delayedtaskscheduler/TaskState" "DEAD" "Lcom/example/delayed_task_scheduler/delayedtaskscheduler/TaskState;" (.ref aD)) (S_CANCELLED : Sta Z Z.heap "com/example/delayed_task_scheduler/delayedtaskscheduler/TaskState" "CANCELLED" "Lcom/example/delayed_task_scheduler/delayedtaskscheduler/TaskState;" (.ref aC)) :
    Con l (⟨"com/example/delayed_task_scheduler/delayedtaskscheduler/TaskStateIsLivePinLaw", "pick", "(I)Lcom/example/delayed_task_scheduler/delayedtaskscheduler/TaskState;"⟩ : MethodName) method_2_code 1 (some (.object "com/example/delayed_task_scheduler/delayedtaskscheduler/TaskState")) ({ frames := 0, cells := 0, slots := 0, locals := 0 } : Room) Z #[(.int k)] h0 (fun v h L => v = some (.ref (pickA k aI aR aS aF aD aC)) ∧ Fr Z.heap.size L ∧ h0 = h) := by
  refine Con.of (plainFor_of_name pn_0) (Ls := #[.val (.int k)]) (fun m => by first | rfl | (simp [entryFrame, mkF, argsToLocals, Value.category]; done)) ?_
  intro p e s m below meth c T0 X0 hx hZ hby hml hown hnm hret hlk e0
  refine go (fun _ => XS.iloadN X0.here hx rfl (hb hby d_method_2_0) rfl) ?_
  show Ends p e below s _ _ _ T0 (mkF m 1 #[.val (.int k)] [(.int k)])
  by_cases c1_1 : k = (0 : Int32)
  · refine go (fun _ => XS.ifNo X0.here hx rfl (hb hby d_method_2_1) rfl (XT.i0_ne_f c1_1)) ?_
    show Ends p e below s _ _ _ T0 (mkF m 4 #[.val (.int k)] [])
    obtain ⟨T2, X2, e2, s2⟩ := getS2 X0 hx hZ hown (host := "") (Or.inl (hw _ (List.mem_of_getElem? (i := 5) rfl))) Via.refl e0 (Sta.ext O0 S_INIT) (g := (mkF m 4 #[.val (.int k)] [])) rfl (hb hby d_method_2_4)
    refine go s2 ?_
    show Ends p e below s _ _ _ T2 (mkF m 7 #[.val (.int k)] [(.ref aI)])
    exact endA X2 hx hlk hret rfl rfl (hb hby d_method_2_7) e2 ⟨by simp [pickA, c1_1], (Fr.nil _), rfl⟩ (by decide) (by decide)
  · refine go (fun _ => XS.ifYes X0.here hx rfl (pc0 := 1) (pc' := 8) rfl (hb hby d_method_2_1) rfl (XT.i0_ne_t c1_1) (by decide) (by decide)) ?_
    show Ends p e below s _ _ _ T0 (mkF m 8 #[.val (.int k)] [])
    refine go (fun _ => XS.iloadN X0.here hx rfl (hb hby d_method_2_8) rfl) ?_
    show Ends p e below s _ _ _ T0 (mkF m 9 #[.val (.int k)] [(.int k)])
    refine go (fun _ => XT.iconstV X0.here hx rfl (1 : Int32) (hb hby d_method_2_9) (by decide)) ?_
    show Ends p e below s _ _ _ T0 (mkF m 10 #[.val (.int k)] [(.int (1 : Int32)), (.int k)])
    by_cases c10_3 : k = (1 : Int32)
    · refine go (fun _ => XS.icmpNo X0.here hx rfl (hb hby d_method_2_10) rfl (XT.ii_ne_f c10_3)) ?_
      show Ends p e below s _ _ _ T0 (mkF m 13 #[.val (.int k)] [])
      obtain ⟨T4, X4, e4, s4⟩ := getS2 X0 hx hZ hown (host := "") (Or.inl (hw _ (List.mem_of_getElem? (i := 24) rfl))) Via.refl e0 (Sta.ext O0 S_RUNNING) (g := (mkF m 13 #[.val (.int k)] [])) rfl (hb hby d_method_2_13)
      refine go s4 ?_
      show Ends p e below s _ _ _ T4 (mkF m 16 #[.val (.int k)] [(.ref aR)])
      exact endA X4 hx hlk hret rfl rfl (hb hby d_method_2_16) e4 ⟨by simp [pickA, c1_1, c10_3], (Fr.nil _), rfl⟩ (by decide) (by decide)
    · refine go (fun _ => XS.icmpYes X0.here hx rfl (pc0 := 10) (pc' := 17) rfl (hb hby d_method_2_10) rfl (XT.ii_ne_t c10_3) (by decide) (by decide)) ?_
      show Ends p e below s _ _ _ T0 (mkF m 17 #[.val (.int k)] [])
      refine go (fun _ => XS.iloadN X0.here hx rfl (hb hby d_method_2_17) rfl) ?_
      show Ends p e below s _ _ _ T0 (mkF m 18 #[.val (.int k)] [(.int k)])
      refine go (fun _ => XT.iconstV X0.here hx rfl (2 : Int32) (hb hby d_method_2_18) (by decide)) ?_
      show Ends p e below s _ _ _ T0 (mkF m 19 #[.val (.int k)] [(.int (2 : Int32)), (.int k)])
      by_cases c19_5 : k = (2 : Int32)
      · refine go (fun _ => XS.icmpNo X0.here hx rfl (hb hby d_method_2_19) rfl (XT.ii_ne_f c19_5)) ?_
        show Ends p e below s _ _ _ T0 (mkF m 22 #[.val (.int k)] [])
        obtain ⟨T6, X6, e6, s6⟩ := getS2 X0 hx hZ hown (host := "") (Or.inl (hw _ (List.mem_of_getElem? (i := 22) rfl))) Via.refl e0 (Sta.ext O0 S_SUCCESS) (g := (mkF m 22 #[.val (.int k)] [])) rfl (hb hby d_method_2_22)
        refine go s6 ?_
        show Ends p e below s _ _ _ T6 (mkF m 25 #[.val (.int k)] [(.ref aS)])
        exact endA X6 hx hlk hret rfl rfl (hb hby d_method_2_25) e6 ⟨by simp [pickA, c1_1, c10_3, c19_5], (Fr.nil _), rfl⟩ (by decide) (by decide)
      · refine go (fun _ => XS.icmpYes X0.here hx rfl (pc0 := 19) (pc' := 26) rfl (hb hby d_method_2_19) rfl (XT.ii_ne_t c19_5) (by decide) (by decide)) ?_
        show Ends p e below s _ _ _ T0 (mkF m 26 #[.val (.int k)] [])
        refine go (fun _ => XS.iloadN X0.here hx rfl (hb hby d_method_2_26) rfl) ?_
        show Ends p e below s _ _ _ T0 (mkF m 27 #[.val (.int k)] [(.int k)])
        refine go (fun _ => XT.iconstV X0.here hx rfl (3 : Int32) (hb hby d_method_2_27) (by decide)) ?_
        show Ends p e below s _ _ _ T0 (mkF m 28 #[.val (.int k)] [(.int (3 : Int32)), (.int k)])
        by_cases c28_7 : k = (3 : Int32)
        · refine go (fun _ => XS.icmpNo X0.here hx rfl (hb hby d_method_2_28) rfl (XT.ii_ne_f c28_7)) ?_
          show Ends p e below s _ _ _ T0 (mkF m 31 #[.val (.int k)] [])
          obtain ⟨T8, X8, e8, s8⟩ := getS2 X0 hx hZ hown (host := "") (Or.inl (hw _ (List.mem_of_getElem? (i := 17) rfl))) Via.refl e0 (Sta.ext O0 S_FAIL) (g := (mkF m 31 #[.val (.int k)] [])) rfl (hb hby d_method_2_31)
          refine go s8 ?_
          show Ends p e below s _ _ _ T8 (mkF m 34 #[.val (.int k)] [(.ref aF)])
          exact endA X8 hx hlk hret rfl rfl (hb hby d_method_2_34) e8 ⟨by simp [pickA, c1_1, c10_3, c19_5, c28_7], (Fr.nil _), rfl⟩ (by decide) (by decide)
        · refine go (fun _ => XS.icmpYes X0.here hx rfl (pc0 := 28) (pc' := 35) rfl (hb hby d_method_2_28) rfl (XT.ii_ne_t c28_7) (by decide) (by decide)) ?_
          show Ends p e below s _ _ _ T0 (mkF m 35 #[.val (.int k)] [])
          refine go (fun _ => XS.iloadN X0.here hx rfl (hb hby d_method_2_35) rfl) ?_
          show Ends p e below s _ _ _ T0 (mkF m 36 #[.val (.int k)] [(.int k)])
          refine go (fun _ => XT.iconstV X0.here hx rfl (4 : Int32) (hb hby d_method_2_36) (by decide)) ?_
          show Ends p e below s _ _ _ T0 (mkF m 37 #[.val (.int k)] [(.int (4 : Int32)), (.int k)])
          by_cases c37_9 : k = (4 : Int32)
          · refine go (fun _ => XS.icmpNo X0.here hx rfl (hb hby d_method_2_37) rfl (XT.ii_ne_f c37_9)) ?_
            show Ends p e below s _ _ _ T0 (mkF m 40 #[.val (.int k)] [])
            obtain ⟨T10, X10, e10, s10⟩ := getS2 X0 hx hZ hown (host := "") (Or.inl (hw _ (List.mem_of_getElem? (i := 27) rfl))) Via.refl e0 (Sta.ext O0 S_DEAD) (g := (mkF m 40 #[.val (.int k)] [])) rfl (hb hby d_method_2_40)
            refine go s10 ?_
            show Ends p e below s _ _ _ T10 (mkF m 43 #[.val (.int k)] [(.ref aD)])
            exact endA X10 hx hlk hret rfl rfl (hb hby d_method_2_43) e10 ⟨by simp [pickA, c1_1, c10_3, c19_5, c28_7, c37_9], (Fr.nil _), rfl⟩ (by decide) (by decide)
          · refine go (fun _ => XS.icmpYes X0.here hx rfl (pc0 := 37) (pc' := 44) rfl (hb hby d_method_2_37) rfl (XT.ii_ne_t c37_9) (by decide) (by decide)) ?_
            show Ends p e below s _ _ _ T0 (mkF m 44 #[.val (.int k)] [])
            obtain ⟨T11, X11, e11, s11⟩ := getS2 X0 hx hZ hown (host := "") (Or.inl (hw _ (List.mem_of_getElem? (i := 25) rfl))) Via.refl e0 (Sta.ext O0 S_CANCELLED) (g := (mkF m 44 #[.val (.int k)] [])) rfl (hb hby d_method_2_44)
            refine go s11 ?_
            show Ends p e below s _ _ _ T11 (mkF m 47 #[.val (.int k)] [(.ref aC)])
            exact endA X11 hx hlk hret rfl rfl (hb hby d_method_2_47) e11 ⟨by simp [pickA, c1_1, c10_3, c19_5, c28_7, c37_9], (Fr.nil _), rfl⟩ (by decide) (by decide)
set_option maxRecDepth 65536 in
set_option maxHeartbeats 40000000 in
theorem rm_exp {l : Launch} {Z : State} {a0 : Array Value} (hw : ∀ d ∈ tables_1, d.before a0 Z = true) (k : Int32) (h0 : Heap)  :
    Con l (⟨"com/example/delayed_task_scheduler/delayedtaskscheduler/TaskStateIsLivePinLaw", "expected", "(I)Z"⟩ : MethodName) method_3_code 1 (some .boolean) ({ frames := 0, cells := 0, slots := 0, locals := 0 } : Room) Z #[(.int k)] h0 (fun v h L => v = some (.int (expI k)) ∧ Fr Z.heap.size L ∧ h0 = h) := by
  refine Con.of (plainFor_of_name pn_0) (Ls := #[.val (.int k)]) (fun m => by first | rfl | (simp [entryFrame, mkF, argsToLocals, Value.category]; done)) ?_
  intro p e s m below meth c T0 X0 hx hZ hby hml hown hnm hret hlk e0
  refine go (fun _ => XS.iloadN X0.here hx rfl (hb hby d_method_3_0) rfl) ?_
  show Ends p e below s _ _ _ T0 (mkF m 1 #[.val (.int k)] [(.int k)])
  by_cases c1_12 : k = (0 : Int32)
  · refine go (fun _ => XS.ifNo X0.here hx rfl (hb hby d_method_3_1) rfl (XT.i0_ne_f c1_12)) ?_
    show Ends p e below s _ _ _ T0 (mkF m 4 #[.val (.int k)] [])
    refine go (fun _ => XT.iconstV X0.here hx rfl (1 : Int32) (hb hby d_method_3_4) (by decide)) ?_
    show Ends p e below s _ _ _ T0 (mkF m 5 #[.val (.int k)] [(.int (1 : Int32))])
    exact endN X0 hx hlk hret (by simp) (hb hby d_method_3_5) e0 ⟨by simp [expI, nar, c1_12], (Fr.nil _), rfl⟩ (by decide) (by decide)
  · refine go (fun _ => XS.ifYes X0.here hx rfl (pc0 := 1) (pc' := 6) rfl (hb hby d_method_3_1) rfl (XT.i0_ne_t c1_12) (by decide) (by decide)) ?_
    show Ends p e below s _ _ _ T0 (mkF m 6 #[.val (.int k)] [])
    refine go (fun _ => XS.iloadN X0.here hx rfl (hb hby d_method_3_6) rfl) ?_
    show Ends p e below s _ _ _ T0 (mkF m 7 #[.val (.int k)] [(.int k)])
    refine go (fun _ => XT.iconstV X0.here hx rfl (1 : Int32) (hb hby d_method_3_7) (by decide)) ?_
    show Ends p e below s _ _ _ T0 (mkF m 8 #[.val (.int k)] [(.int (1 : Int32)), (.int k)])
    by_cases c8_13 : k = (1 : Int32)
    · refine go (fun _ => XS.icmpNo X0.here hx rfl (hb hby d_method_3_8) rfl (XT.ii_ne_f c8_13)) ?_
      show Ends p e below s _ _ _ T0 (mkF m 11 #[.val (.int k)] [])
      refine go (fun _ => XT.iconstV X0.here hx rfl (1 : Int32) (hb hby d_method_3_11) (by decide)) ?_
      show Ends p e below s _ _ _ T0 (mkF m 12 #[.val (.int k)] [(.int (1 : Int32))])
      exact endN X0 hx hlk hret (by simp) (hb hby d_method_3_12) e0 ⟨by simp [expI, nar, c1_12, c8_13], (Fr.nil _), rfl⟩ (by decide) (by decide)
    · refine go (fun _ => XS.icmpYes X0.here hx rfl (pc0 := 8) (pc' := 13) rfl (hb hby d_method_3_8) rfl (XT.ii_ne_t c8_13) (by decide) (by decide)) ?_
      show Ends p e below s _ _ _ T0 (mkF m 13 #[.val (.int k)] [])
      refine go (fun _ => XS.iloadN X0.here hx rfl (hb hby d_method_3_13) rfl) ?_
      show Ends p e below s _ _ _ T0 (mkF m 14 #[.val (.int k)] [(.int k)])
      refine go (fun _ => XT.iconstV X0.here hx rfl (3 : Int32) (hb hby d_method_3_14) (by decide)) ?_
      show Ends p e below s _ _ _ T0 (mkF m 15 #[.val (.int k)] [(.int (3 : Int32)), (.int k)])
      by_cases c15_14 : k = (3 : Int32)
      · refine go (fun _ => XS.icmpNo X0.here hx rfl (hb hby d_method_3_15) rfl (XT.ii_ne_f c15_14)) ?_
        show Ends p e below s _ _ _ T0 (mkF m 18 #[.val (.int k)] [])
        refine go (fun _ => XT.iconstV X0.here hx rfl (1 : Int32) (hb hby d_method_3_18) (by decide)) ?_
        show Ends p e below s _ _ _ T0 (mkF m 19 #[.val (.int k)] [(.int (1 : Int32))])
        exact endN X0 hx hlk hret (by simp) (hb hby d_method_3_19) e0 ⟨by simp [expI, nar, c1_12, c8_13, c15_14], (Fr.nil _), rfl⟩ (by decide) (by decide)
      · refine go (fun _ => XS.icmpYes X0.here hx rfl (pc0 := 15) (pc' := 20) rfl (hb hby d_method_3_15) rfl (XT.ii_ne_t c15_14) (by decide) (by decide)) ?_
        show Ends p e below s _ _ _ T0 (mkF m 20 #[.val (.int k)] [])
        refine go (fun _ => XT.iconstV X0.here hx rfl (0 : Int32) (hb hby d_method_3_20) (by decide)) ?_
        show Ends p e below s _ _ _ T0 (mkF m 21 #[.val (.int k)] [(.int (0 : Int32))])
        exact endN X0 hx hlk hret (by simp) (hb hby d_method_3_21) e0 ⟨by simp [expI, nar, c1_12, c8_13, c15_14], (Fr.nil _), rfl⟩ (by decide) (by decide)
set_option maxRecDepth 65536 in
set_option maxHeartbeats 40000000 in
theorem rm_live {l : Launch} {Z : State} {a0 : Array Value} (hw : ∀ d ∈ tables_1, d.before a0 Z = true) (a : Addr) (aI aR aS aF aD aC : Addr) (h0 : Heap) (O0 : Ext Z.heap h0) (S_INIT : Sta Z Z.heap "com/example/delayed_task_scheduler/delayedtaskscheduler/TaskState" "INIT" "Lcom/example/delayed_task_scheduler/delayedtaskscheduler/TaskState;" (.ref aI)) (S_RUNNING : Sta Z Z.heap "com/example/delayed_task_scheduler/delayedtaskscheduler/TaskState" "RUNNING" "Lcom/example/delayed_task_scheduler/delayedtaskscheduler/TaskState;" (.ref aR)) (S_SUCCESS : Sta Z Z.heap "com/example/delayed_task_scheduler/delayedtaskscheduler/TaskState" "SUCCESS" "Lcom/example/delayed_task_scheduler/delayedtaskscheduler/TaskState;" (.ref aS)) (S_FAIL : Sta Z Z.heap "com/example/delayed_task_scheduler/delayedtaskscheduler/TaskState" "FAIL" "Lcom/example/delayed_task_scheduler/delayedtaskscheduler/TaskState;" (.ref aF)) (S_DEAD : Sta Z Z.heap "com/example/delayed_task_scheduler/delayedtaskscheduler/TaskState" "DEAD" "Lcom/example/delayed_task_scheduler/delayedtaskscheduler/TaskState;" (.ref aD)) (S_CANCELLED : Sta Z Z.heap "com/example/delayed_task_scheduler/delayedtaskscheduler/TaskState" "CANCELLED" "Lcom/example/delayed_task_scheduler/delayedtaskscheduler/TaskState;" (.ref aC)) :
    Con l (⟨"com/example/delayed_task_scheduler/delayedtaskscheduler/TaskState", "isLive", "()Z"⟩ : MethodName) prog_13_method_4_code 1 (some .boolean) ({ frames := 0, cells := 0, slots := 0, locals := 0 } : Room) Z #[(.ref a)] h0 (fun v h L => v = some (.int (liveI a aI aR aF)) ∧ Fr Z.heap.size L ∧ h0 = h) := by
  refine Con.of (plainFor_of_name pn_1) (Ls := #[.val (.ref a)]) (fun m => by first | rfl | (simp [entryFrame, mkF, argsToLocals, Value.category]; done)) ?_
  intro p e s m below meth c T0 X0 hx hZ hby hml hown hnm hret hlk e0
  refine go (fun _ => XS.aloadN X0.here hx rfl (hb hby d_prog_13_method_4_0) rfl rfl) ?_
  show Ends p e below s _ _ _ T0 (mkF m 1 #[.val (.ref a)] [(.ref a)])
  obtain ⟨T15, X15, e15, s15⟩ := getS2 X0 hx hZ hown (host := "") (Or.inl (hw _ (List.mem_of_getElem? (i := 13) rfl))) Via.refl e0 (Sta.ext O0 S_INIT) (g := (mkF m 1 #[.val (.ref a)] [(.ref a)])) rfl (hb hby d_prog_13_method_4_1)
  refine go s15 ?_
  show Ends p e below s _ _ _ T15 (mkF m 4 #[.val (.ref a)] [(.ref aI), (.ref a)])
  by_cases c4_16 : ((.ref a) : Value) = (.ref aI)
  · refine go (fun _ => XT.acmpYes X15.here hx rfl (pc0 := 4) (pc' := 21) rfl (hb hby d_prog_13_method_4_4) rfl rfl rfl (XT.aa_eq_t c4_16) (by decide) (by decide)) ?_
    show Ends p e below s _ _ _ T15 (mkF m 21 #[.val (.ref a)] [])
    refine go (fun _ => XT.iconstV X15.here hx rfl (1 : Int32) (hb hby d_prog_13_method_4_21) (by decide)) ?_
    show Ends p e below s _ _ _ T15 (mkF m 22 #[.val (.ref a)] [(.int (1 : Int32))])
    refine go (fun _ => XS.goto X15.here hx rfl (pc0 := 22) (pc' := 26) rfl (hb hby d_prog_13_method_4_22) (by decide) (by decide)) ?_
    show Ends p e below s _ _ _ T15 (mkF m 26 #[.val (.ref a)] [(.int (1 : Int32))])
    exact endN X15 hx hlk hret (by simp) (hb hby d_prog_13_method_4_26) e15 ⟨by have q0 : a = aI := (Value.ref.inj c4_16); simp [liveI, nar, q0], (Fr.nil _), rfl⟩ (by decide) (by decide)
  · refine go (fun _ => XT.acmpNo X15.here hx rfl (hb hby d_prog_13_method_4_4) rfl rfl rfl (XT.aa_eq_f c4_16)) ?_
    show Ends p e below s _ _ _ T15 (mkF m 7 #[.val (.ref a)] [])
    refine go (fun _ => XS.aloadN X15.here hx rfl (hb hby d_prog_13_method_4_7) rfl rfl) ?_
    show Ends p e below s _ _ _ T15 (mkF m 8 #[.val (.ref a)] [(.ref a)])
    obtain ⟨T17, X17, e17, s17⟩ := getS2 X15 hx hZ hown (host := "") (Or.inl (hw _ (List.mem_of_getElem? (i := 19) rfl))) Via.refl e15 (Sta.ext O0 S_RUNNING) (g := (mkF m 8 #[.val (.ref a)] [(.ref a)])) rfl (hb hby d_prog_13_method_4_8)
    refine go s17 ?_
    show Ends p e below s _ _ _ T17 (mkF m 11 #[.val (.ref a)] [(.ref aR), (.ref a)])
    by_cases c11_18 : ((.ref a) : Value) = (.ref aR)
    · refine go (fun _ => XT.acmpYes X17.here hx rfl (pc0 := 11) (pc' := 21) rfl (hb hby d_prog_13_method_4_11) rfl rfl rfl (XT.aa_eq_t c11_18) (by decide) (by decide)) ?_
      show Ends p e below s _ _ _ T17 (mkF m 21 #[.val (.ref a)] [])
      refine go (fun _ => XT.iconstV X17.here hx rfl (1 : Int32) (hb hby d_prog_13_method_4_21) (by decide)) ?_
      show Ends p e below s _ _ _ T17 (mkF m 22 #[.val (.ref a)] [(.int (1 : Int32))])
      refine go (fun _ => XS.goto X17.here hx rfl (pc0 := 22) (pc' := 26) rfl (hb hby d_prog_13_method_4_22) (by decide) (by decide)) ?_
      show Ends p e below s _ _ _ T17 (mkF m 26 #[.val (.ref a)] [(.int (1 : Int32))])
      exact endN X17 hx hlk hret (by simp) (hb hby d_prog_13_method_4_26) e17 ⟨by have q0 : ¬ a = aI := (fun q => c4_16 (congrArg Value.ref q)); have q1 : a = aR := (Value.ref.inj c11_18); simp [liveI, nar, q0, q1], (Fr.nil _), rfl⟩ (by decide) (by decide)
    · refine go (fun _ => XT.acmpNo X17.here hx rfl (hb hby d_prog_13_method_4_11) rfl rfl rfl (XT.aa_eq_f c11_18)) ?_
      show Ends p e below s _ _ _ T17 (mkF m 14 #[.val (.ref a)] [])
      refine go (fun _ => XS.aloadN X17.here hx rfl (hb hby d_prog_13_method_4_14) rfl rfl) ?_
      show Ends p e below s _ _ _ T17 (mkF m 15 #[.val (.ref a)] [(.ref a)])
      obtain ⟨T19, X19, e19, s19⟩ := getS2 X17 hx hZ hown (host := "") (Or.inl (hw _ (List.mem_of_getElem? (i := 21) rfl))) Via.refl e17 (Sta.ext O0 S_FAIL) (g := (mkF m 15 #[.val (.ref a)] [(.ref a)])) rfl (hb hby d_prog_13_method_4_15)
      refine go s19 ?_
      show Ends p e below s _ _ _ T19 (mkF m 18 #[.val (.ref a)] [(.ref aF), (.ref a)])
      by_cases c18_20 : ((.ref a) : Value) = (.ref aF)
      · refine go (fun _ => XT.acmpNo X19.here hx rfl (hb hby d_prog_13_method_4_18) rfl rfl rfl (XT.aa_ne_f c18_20)) ?_
        show Ends p e below s _ _ _ T19 (mkF m 21 #[.val (.ref a)] [])
        refine go (fun _ => XT.iconstV X19.here hx rfl (1 : Int32) (hb hby d_prog_13_method_4_21) (by decide)) ?_
        show Ends p e below s _ _ _ T19 (mkF m 22 #[.val (.ref a)] [(.int (1 : Int32))])
        refine go (fun _ => XS.goto X19.here hx rfl (pc0 := 22) (pc' := 26) rfl (hb hby d_prog_13_method_4_22) (by decide) (by decide)) ?_
        show Ends p e below s _ _ _ T19 (mkF m 26 #[.val (.ref a)] [(.int (1 : Int32))])
        exact endN X19 hx hlk hret (by simp) (hb hby d_prog_13_method_4_26) e19 ⟨by have q0 : ¬ a = aI := (fun q => c4_16 (congrArg Value.ref q)); have q1 : ¬ a = aR := (fun q => c11_18 (congrArg Value.ref q)); have q2 : a = aF := (Value.ref.inj c18_20); simp [liveI, nar, q0, q1, q2], (Fr.nil _), rfl⟩ (by decide) (by decide)
      · refine go (fun _ => XT.acmpYes X19.here hx rfl (pc0 := 18) (pc' := 25) rfl (hb hby d_prog_13_method_4_18) rfl rfl rfl (XT.aa_ne_t c18_20) (by decide) (by decide)) ?_
        show Ends p e below s _ _ _ T19 (mkF m 25 #[.val (.ref a)] [])
        refine go (fun _ => XT.iconstV X19.here hx rfl (0 : Int32) (hb hby d_prog_13_method_4_25) (by decide)) ?_
        show Ends p e below s _ _ _ T19 (mkF m 26 #[.val (.ref a)] [(.int (0 : Int32))])
        exact endN X19 hx hlk hret (by simp) (hb hby d_prog_13_method_4_26) e19 ⟨by have q0 : ¬ a = aI := (fun q => c4_16 (congrArg Value.ref q)); have q1 : ¬ a = aR := (fun q => c11_18 (congrArg Value.ref q)); have q2 : ¬ a = aF := (fun q => c18_20 (congrArg Value.ref q)); simp [liveI, nar, q0, q1, q2], (Fr.nil _), rfl⟩ (by decide) (by decide)
set_option maxRecDepth 65536 in
set_option maxHeartbeats 40000000 in
theorem rm_law {l : Launch} {Z : State} {a0 : Array Value} (hw : ∀ d ∈ tables_1, d.before a0 Z = true) (i0 : Int32) (aI aR aS aF aD aC : Addr) (h0 : Heap) (O0 : Ext Z.heap h0) (S_INIT : Sta Z Z.heap "com/example/delayed_task_scheduler/delayedtaskscheduler/TaskState" "INIT" "Lcom/example/delayed_task_scheduler/delayedtaskscheduler/TaskState;" (.ref aI)) (S_RUNNING : Sta Z Z.heap "com/example/delayed_task_scheduler/delayedtaskscheduler/TaskState" "RUNNING" "Lcom/example/delayed_task_scheduler/delayedtaskscheduler/TaskState;" (.ref aR)) (S_SUCCESS : Sta Z Z.heap "com/example/delayed_task_scheduler/delayedtaskscheduler/TaskState" "SUCCESS" "Lcom/example/delayed_task_scheduler/delayedtaskscheduler/TaskState;" (.ref aS)) (S_FAIL : Sta Z Z.heap "com/example/delayed_task_scheduler/delayedtaskscheduler/TaskState" "FAIL" "Lcom/example/delayed_task_scheduler/delayedtaskscheduler/TaskState;" (.ref aF)) (S_DEAD : Sta Z Z.heap "com/example/delayed_task_scheduler/delayedtaskscheduler/TaskState" "DEAD" "Lcom/example/delayed_task_scheduler/delayedtaskscheduler/TaskState;" (.ref aD)) (S_CANCELLED : Sta Z Z.heap "com/example/delayed_task_scheduler/delayedtaskscheduler/TaskState" "CANCELLED" "Lcom/example/delayed_task_scheduler/delayedtaskscheduler/TaskState;" (.ref aC)) (E_INIT : Exa Z Z.heap aI "com/example/delayed_task_scheduler/delayedtaskscheduler/TaskState") (E_RUNNING : Exa Z Z.heap aR "com/example/delayed_task_scheduler/delayedtaskscheduler/TaskState") (E_SUCCESS : Exa Z Z.heap aS "com/example/delayed_task_scheduler/delayedtaskscheduler/TaskState") (E_FAIL : Exa Z Z.heap aF "com/example/delayed_task_scheduler/delayedtaskscheduler/TaskState") (E_DEAD : Exa Z Z.heap aD "com/example/delayed_task_scheduler/delayedtaskscheduler/TaskState") (E_CANCELLED : Exa Z Z.heap aC "com/example/delayed_task_scheduler/delayedtaskscheduler/TaskState") (h1 : aS ≠ aI) (h2 : aS ≠ aR) (h3 : aS ≠ aF) (h4 : aD ≠ aI) (h5 : aD ≠ aR) (h6 : aD ≠ aF) (h7 : aC ≠ aI) (h8 : aC ≠ aR) (h9 : aC ≠ aF) :
    Con l x code maxLocals ret room_1 Z #[(.int i0)] h0 (fun v h L => v = some (.int 1) ∧ Fr Z.heap.size L) := by
  refine Con.of (plainFor_of_name pn_0) (Ls := #[.val (.int i0), .unset, .unset]) (fun m => by first | rfl | (simp [entryFrame, mkF, argsToLocals, Value.category, maxLocals]; done)) ?_
  intro p e s m below meth c T0 X0 hx hZ hby hml hown hnm hret hlk e0
  have hml : c.maxLocals = 3 := hml
  refine go (fun _ => XS.iloadN X0.here hx rfl (hb hby at_0) rfl) ?_
  show Ends p e below s _ _ _ T0 (mkF m 1 #[.val (.int i0), .unset, .unset] [(.int i0)])
  refine go (fun _ => Jvm.Stand.ldcI X0 hx hown (mvT hZ (hw _ (List.mem_of_getElem? (i := 0) rfl))) rfl (hb hby at_1)) ?_
  show Ends p e below s _ _ _ T0 (mkF m 3 #[.val (.int i0), .unset, .unset] [(.int (2147483647 : Int32)), (.int i0)])
  refine go (fun _ => XS.iand X0.here hx rfl (hb hby at_3) rfl) ?_
  show Ends p e below s _ _ _ T0 (mkF m 4 #[.val (.int i0), .unset, .unset] [(.int (i0 &&& (2147483647 : Int32)))])
  refine go (fun _ => XT.bipushV X0.here hx rfl (6 : Int32) (hb hby at_4) (by decide)) ?_
  show Ends p e below s _ _ _ T0 (mkF m 6 #[.val (.int i0), .unset, .unset] [(.int (6 : Int32)), (.int (i0 &&& (2147483647 : Int32)))])
  refine go (fun _ => iremM X0 hx rfl (hb hby at_6) rfl (by decide)) ?_
  show Ends p e below s _ _ _ T0 (mkF m 7 #[.val (.int i0), .unset, .unset] [(.int ((i0 &&& (2147483647 : Int32)) % (6 : Int32)))])
  refine go (fun _ => XS.istoreN X0.here hx rfl (hb hby at_7) rfl (l' := #[.val (.int i0), .val (.int ((i0 &&& (2147483647 : Int32)) % (6 : Int32))), .unset]) rfl) ?_
  show Ends p e below s _ _ _ T0 (mkF m 8 #[.val (.int i0), .val (.int ((i0 &&& (2147483647 : Int32)) % (6 : Int32))), .unset] [])
  refine go (fun _ => XS.iloadN X0.here hx rfl (hb hby at_8) rfl) ?_
  show Ends p e below s _ _ _ T0 (mkF m 9 #[.val (.int i0), .val (.int ((i0 &&& (2147483647 : Int32)) % (6 : Int32))), .unset] [(.int ((i0 &&& (2147483647 : Int32)) % (6 : Int32)))])
  refine cStat X0 hx hZ hown (by rw [hml]; rfl) e0 (hw _ (List.mem_of_getElem? (i := 1) rfl)) (hw _ (List.mem_of_getElem? (i := 2) rfl)) (hw _ (List.mem_of_getElem? (i := 3) rfl)) (hw _ (List.mem_of_getElem? (i := 4) rfl)) [(.int ((i0 &&& (2147483647 : Int32)) % (6 : Int32)))] [] rfl (rm_pick hw ((i0 &&& (2147483647 : Int32)) % (6 : Int32)) aI aR aS aF aD aC _ O0 S_INIT S_RUNNING S_SUCCESS S_FAIL S_DEAD S_CANCELLED) (hb hby at_9) rfl (lenOf pd_2 rfl) (by decide) (by decide) (Nat.le_of_ble_eq_true rfl) (by decide) (by decide) ?_
  rintro v21 T21 h21 L21 X21 e21 ⟨rfl, N21, rfl⟩
  have N21a := Fr.app (Fr.nil _) N21
  show Ends p e below s _ _ _ T21 (mkF m 12 #[.val (.int i0), .val (.int ((i0 &&& (2147483647 : Int32)) % (6 : Int32))), .unset] [(.ref (pickA ((i0 &&& (2147483647 : Int32)) % (6 : Int32)) aI aR aS aF aD aC))])
  refine go (fun _ => XS.astoreN X21.here hx rfl (hb hby at_12) rfl rfl (l' := #[.val (.int i0), .val (.int ((i0 &&& (2147483647 : Int32)) % (6 : Int32))), .val (.ref (pickA ((i0 &&& (2147483647 : Int32)) % (6 : Int32)) aI aR aS aF aD aC))]) rfl) ?_
  show Ends p e below s _ _ _ T21 (mkF m 13 #[.val (.int i0), .val (.int ((i0 &&& (2147483647 : Int32)) % (6 : Int32))), .val (.ref (pickA ((i0 &&& (2147483647 : Int32)) % (6 : Int32)) aI aR aS aF aD aC))] [])
  refine go (fun _ => XS.aloadN X21.here hx rfl (hb hby at_13) rfl rfl) ?_
  show Ends p e below s _ _ _ T21 (mkF m 14 #[.val (.int i0), .val (.int ((i0 &&& (2147483647 : Int32)) % (6 : Int32))), .val (.ref (pickA ((i0 &&& (2147483647 : Int32)) % (6 : Int32)) aI aR aS aF aD aC))] [(.ref (pickA ((i0 &&& (2147483647 : Int32)) % (6 : Int32)) aI aR aS aF aD aC))])
  have EP : Exa Z h0 (pickA ((i0 &&& (2147483647 : Int32)) % (6 : Int32)) aI aR aS aF aD aC) "com/example/delayed_task_scheduler/delayedtaskscheduler/TaskState" := by unfold pickA; (repeat' split) <;> first | exact Exa.ext O0 E_INIT | exact Exa.ext O0 E_RUNNING | exact Exa.ext O0 E_SUCCESS | exact Exa.ext O0 E_FAIL | exact Exa.ext O0 E_DEAD | exact Exa.ext O0 E_CANCELLED
  refine cVirt X21 hx hZ hown (by rw [hml]; rfl) e21 (hw _ (List.mem_of_getElem? (i := 8) rfl)) (hw _ (List.mem_of_getElem? (i := 9) rfl)) (hw _ (List.mem_of_getElem? (i := 11) rfl)) (hw _ (List.mem_of_getElem? (i := 10) rfl)) (hw _ (List.mem_of_getElem? (i := 6) rfl)) (hw _ (List.mem_of_getElem? (i := 12) rfl)) (notFace_of_selects (args := #[]) (mvT hZ (hw _ (List.mem_of_getElem? (i := 11) rfl)))) (pickA ((i0 &&& (2147483647 : Int32)) % (6 : Int32)) aI aR aS aF aD aC) EP [] [] rfl (rm_live hw (pickA ((i0 &&& (2147483647 : Int32)) % (6 : Int32)) aI aR aS aF aD aC) aI aR aS aF aD aC _ O0 S_INIT S_RUNNING S_SUCCESS S_FAIL S_DEAD S_CANCELLED) (hb hby at_14) rfl (lenOf pd_3 rfl) (by decide) (by decide) (Nat.le_of_ble_eq_true rfl) (by decide) (by decide) ?_
  rintro v22 T22 h22 L22 X22 e22 ⟨rfl, N22, rfl⟩
  have N22a := Fr.app N21a N22
  show Ends p e below s _ _ _ T22 (mkF m 17 #[.val (.int i0), .val (.int ((i0 &&& (2147483647 : Int32)) % (6 : Int32))), .val (.ref (pickA ((i0 &&& (2147483647 : Int32)) % (6 : Int32)) aI aR aS aF aD aC))] [(.int (liveI (pickA ((i0 &&& (2147483647 : Int32)) % (6 : Int32)) aI aR aS aF aD aC) aI aR aF))])
  refine go (fun _ => XS.iloadN X22.here hx rfl (hb hby at_17) rfl) ?_
  show Ends p e below s _ _ _ T22 (mkF m 18 #[.val (.int i0), .val (.int ((i0 &&& (2147483647 : Int32)) % (6 : Int32))), .val (.ref (pickA ((i0 &&& (2147483647 : Int32)) % (6 : Int32)) aI aR aS aF aD aC))] [(.int ((i0 &&& (2147483647 : Int32)) % (6 : Int32))), (.int (liveI (pickA ((i0 &&& (2147483647 : Int32)) % (6 : Int32)) aI aR aS aF aD aC) aI aR aF))])
  refine cStat X22 hx hZ hown (by rw [hml]; rfl) e22 (hw _ (List.mem_of_getElem? (i := 14) rfl)) (hw _ (List.mem_of_getElem? (i := 15) rfl)) (hw _ (List.mem_of_getElem? (i := 3) rfl)) (hw _ (List.mem_of_getElem? (i := 16) rfl)) [(.int ((i0 &&& (2147483647 : Int32)) % (6 : Int32)))] [(.int (liveI (pickA ((i0 &&& (2147483647 : Int32)) % (6 : Int32)) aI aR aS aF aD aC) aI aR aF))] rfl (rm_exp hw ((i0 &&& (2147483647 : Int32)) % (6 : Int32)) _) (hb hby at_18) rfl (lenOf pd_4 rfl) (by decide) (by decide) (Nat.le_of_ble_eq_true rfl) (by decide) (by decide) ?_
  rintro v23 T23 h23 L23 X23 e23 ⟨rfl, N23, rfl⟩
  have N23a := Fr.app N22a N23
  show Ends p e below s _ _ _ T23 (mkF m 21 #[.val (.int i0), .val (.int ((i0 &&& (2147483647 : Int32)) % (6 : Int32))), .val (.ref (pickA ((i0 &&& (2147483647 : Int32)) % (6 : Int32)) aI aR aS aF aD aC))] [(.int (expI ((i0 &&& (2147483647 : Int32)) % (6 : Int32)))), (.int (liveI (pickA ((i0 &&& (2147483647 : Int32)) % (6 : Int32)) aI aR aS aF aD aC) aI aR aF))])
  have hE : (liveI (pickA ((i0 &&& (2147483647 : Int32)) % (6 : Int32)) aI aR aS aF aD aC) aI aR aF) = (expI ((i0 &&& (2147483647 : Int32)) % (6 : Int32))) := own_law _ h1 h2 h3 h4 h5 h6 h7 h8 h9
  refine go (fun _ => XS.icmpNo X23.here hx rfl (hb hby at_21) rfl (XT.ii_ne_f hE)) ?_
  show Ends p e below s _ _ _ T23 (mkF m 24 #[.val (.int i0), .val (.int ((i0 &&& (2147483647 : Int32)) % (6 : Int32))), .val (.ref (pickA ((i0 &&& (2147483647 : Int32)) % (6 : Int32)) aI aR aS aF aD aC))] [])
  refine go (fun _ => XT.iconstV X23.here hx rfl (1 : Int32) (hb hby at_24) (by decide)) ?_
  show Ends p e below s _ _ _ T23 (mkF m 25 #[.val (.int i0), .val (.int ((i0 &&& (2147483647 : Int32)) % (6 : Int32))), .val (.ref (pickA ((i0 &&& (2147483647 : Int32)) % (6 : Int32)) aI aR aS aF aD aC))] [(.int (1 : Int32))])
  refine go (fun _ => XS.goto X23.here hx rfl (pc0 := 25) (pc' := 29) rfl (hb hby at_25) (by decide) (by decide)) ?_
  show Ends p e below s _ _ _ T23 (mkF m 29 #[.val (.int i0), .val (.int ((i0 &&& (2147483647 : Int32)) % (6 : Int32))), .val (.ref (pickA ((i0 &&& (2147483647 : Int32)) % (6 : Int32)) aI aR aS aF aD aC))] [(.int (1 : Int32))])
  exact endN X23 hx hlk hret (by simp) (hb hby at_29) e23 ⟨rfl, N23a⟩ (by decide) (by decide)
set_option maxRecDepth 65536 in
set_option maxHeartbeats 40000000 in
theorem comes_1 {Post : Tables → Env → Array Value → State → Outcome → State → Prop} (hpost : ∀ tb e args s v u, (limb_1_1.after args s (.returned v) u = true ∧ limb_1_2.after args s (.returned v) u = true ∧ True) → FrameEnd s (.returned v) u (Jvm.fieldLocs frame_1_writes args s ++ Jvm.arrayLocs frame_1_arrays args s ++ Jvm.staticLocs frame_1_statics s) 0 0 → Post tb e args s (.returned v) u) :
    ArmFor flags0 classFile x code maxLocals ret World_1 tables_1 room_1 Calls_1 rest_1 Pre_1 Post := by
  intro l hfl _ _ p e ha hc hk s m args below hf hA hF happ hP
  obtain ⟨hcalls, hrest, hpre⟩ := hP
  obtain ⟨-, -, -, hnamed, -, -, -, hat⟩ := (Spec.applies_iff hf).mp happ
  obtain ⟨hg, hn⟩ := and_e (Cond.before_iff.mp (show (Jvm.Cond.and given_1 narrow_1).before args s = true from hpre))
  obtain ⟨gv0, gv1⟩ := and_e hg
  obtain ⟨w0, rfl⟩ : ∃ w0 : Value, args = #[w0] := by
    have hs : args.size = 1 := by simpa [Cond.value, given_1] using gv0
    obtain ⟨L⟩ := args
    match L, hs with
    | [w0], _ => exact ⟨w0, rfl⟩
  have hw := fun d (hd : d ∈ tables_1) => atoms_spec (ws := Jvm.Cond.code x code maxLocals ret :: tables_1) hat d (List.mem_cons_of_mem _ hd)
  have hfit : Fit s := fun {y c} hc i hi => by
    obtain ⟨ha, rfl⟩ := Array.getElem?_eq_some_iff.mp hc
    have q := List.all_eq_true.mp ((Array.all_eq_true_iff_forall_mem.mp hF) _ (Array.getElem_mem ha)) i (List.mem_range.mpr hi)
    simpa [Array.getElem?_eq_getElem hi] using q
  obtain ⟨i0, ei0⟩ := is_v gv1
  obtain rfl : w0 = (.int i0) := Option.some.inj ei0
  obtain ⟨nr0, nrtr⟩ := and_e hn
  obtain ⟨nr1, nrtrr⟩ := and_e nrtr
  obtain ⟨nr2, nrtrrr⟩ := and_e nrtrr
  obtain ⟨nr3, nrtrrrr⟩ := and_e nrtrrr
  obtain ⟨nr4, nrtrrrrr⟩ := and_e nrtrrrr
  obtain ⟨nr5, nrtrrrrrr⟩ := and_e nrtrrrrr
  obtain ⟨nr6, nrtrrrrrrr⟩ := and_e nrtrrrrrr
  obtain ⟨nr7, nrtrrrrrrrr⟩ := and_e nrtrrrrrrr
  obtain ⟨nr8, nrtrrrrrrrrr⟩ := and_e nrtrrrrrrrr
  obtain ⟨nr9, nrtrrrrrrrrrr⟩ := and_e nrtrrrrrrrrr
  obtain ⟨nr10, nr11⟩ := and_e nrtrrrrrrrrrr
  obtain ⟨aI, ev_INIT⟩ := exa_v nr0
  have E_INIT := Exa.start ev_INIT nr0
  have S_INIT := Sta.start ev_INIT (Or.inr ⟨(hw _ (List.mem_of_getElem? (i := 6) rfl)), (hw _ (List.mem_of_getElem? (i := 7) rfl))⟩)
  obtain ⟨aF, ev_FAIL⟩ := exa_v nr1
  have E_FAIL := Exa.start ev_FAIL nr1
  have S_FAIL := Sta.start ev_FAIL (Or.inr ⟨(hw _ (List.mem_of_getElem? (i := 6) rfl)), (hw _ (List.mem_of_getElem? (i := 18) rfl))⟩)
  obtain ⟨aR, ev_RUNNING⟩ := exa_v nr4
  have E_RUNNING := Exa.start ev_RUNNING nr4
  have S_RUNNING := Sta.start ev_RUNNING (Or.inr ⟨(hw _ (List.mem_of_getElem? (i := 6) rfl)), (hw _ (List.mem_of_getElem? (i := 20) rfl))⟩)
  obtain ⟨aS, ev_SUCCESS⟩ := exa_v nr6
  have E_SUCCESS := Exa.start ev_SUCCESS nr6
  have S_SUCCESS := Sta.start ev_SUCCESS (Or.inr ⟨(hw _ (List.mem_of_getElem? (i := 6) rfl)), (hw _ (List.mem_of_getElem? (i := 23) rfl))⟩)
  obtain ⟨aC, ev_CANCELLED⟩ := exa_v nr8
  have E_CANCELLED := Exa.start ev_CANCELLED nr8
  have S_CANCELLED := Sta.start ev_CANCELLED (Or.inr ⟨(hw _ (List.mem_of_getElem? (i := 6) rfl)), (hw _ (List.mem_of_getElem? (i := 26) rfl))⟩)
  obtain ⟨aD, ev_DEAD⟩ := exa_v nr10
  have E_DEAD := Exa.start ev_DEAD nr10
  have S_DEAD := Sta.start ev_DEAD (Or.inr ⟨(hw _ (List.mem_of_getElem? (i := 6) rfl)), (hw _ (List.mem_of_getElem? (i := 28) rfl))⟩)
  have D_FAIL := own_ord ev_FAIL nr2
  have D_INIT := own_ord ev_INIT nr3
  have D_RUNNING := own_ord ev_RUNNING nr5
  have D_SUCCESS := own_ord ev_SUCCESS nr7
  have D_CANCELLED := own_ord ev_CANCELLED nr9
  have D_DEAD := own_ord ev_DEAD nr11
  
  obtain ⟨n, o, h1, h2, h3, _, L, rfl, ⟨rfl, N⟩, hq⟩ := (rm_law (l := l) hw i0 aI aR aS aF aD aC s.heap ⟨Nat.le_refl _, fun _ _ q => q⟩ S_INIT S_RUNNING S_SUCCESS S_FAIL S_DEAD S_CANCELLED E_INIT E_RUNNING E_SUCCESS E_FAIL E_DEAD E_CANCELLED (Fld.ne D_SUCCESS D_INIT (by decide)) (Fld.ne D_SUCCESS D_RUNNING (by decide)) (Fld.ne D_SUCCESS D_FAIL (by decide)) (Fld.ne D_DEAD D_INIT (by decide)) (Fld.ne D_DEAD D_RUNNING (by decide)) (Fld.ne D_DEAD D_FAIL (by decide)) (Fld.ne D_CANCELLED D_INIT (by decide)) (Fld.ne D_CANCELLED D_RUNNING (by decide)) (Fld.ne D_CANCELLED D_FAIL (by decide))) tables_1 p e ha hc hk s m _ below hf ((Spec.applies_iff_loose hf).mp happ).1 ⟨rfl, State.Warmed39.refl s, rfl⟩ trivial
  refine ⟨n, _, h1, h2, h3, hpost _ _ _ _ _ _ ⟨Cond.after_iff.mpr rfl, Cond.after_iff.mpr (eq_i res_at (Term.int_eval (1)) rfl), trivial⟩ ⟨hq.1, hq.2.1, (hq.2.2.sift fun y hy => Or.inr (N y hy)).mono (by decide) (by decide)⟩⟩
theorem main_1_1 : Claimed_1_1 := comes_1 fun _ _ _ _ _ _ h hF => ⟨h.1, hF⟩
theorem main_1_2 : Claimed_1_2 := comes_1 fun _ _ _ _ _ _ h hF => ⟨h.2.1, hF⟩
end Jvm.Pilot.@@N@@
namespace Jvm.Pilot.@@N@@
open Jvm Jvm.ClassFile Sem Op Lib Jvm.Free Jvm.Stand Jvm.Pilot.@@N@@.Jvm.D
/-! MADE BY PROGRAM (witnessworld.py) out of the Statement's table words and the real class files: 12 classes; the members and pool entries that the words name. The judged class is class 1, her method 3. -/
namespace start1
open Jvm.ClassFile
def u (s : String) : CpInfo := .utf8 (stringToUtf16 s)
/-- a pool by its gaps: so many unusable entries, then the entry; so many at the end -/
def gap : Nat → List CpInfo → List CpInfo
  | 0, r => r
  | n + 1, r => .unusable :: gap n r
def poolList (es : List (Nat × CpInfo)) (last : Nat) : List CpInfo := es.foldr (fun e r => gap e.1 (e.2 :: r)) (gap last [])
def pool (es : List (Nat × CpInfo)) (last : Nat) : Array CpInfo := ⟨poolList es last⟩
def fileOf (pool : Array CpInfo) (this : Nat) (attrs : Array Attribute := #[]) (ms : Array MethodInfo := #[]) (fl : Nat := 33) (sup : Nat := 0) (ifs : Array Nat := #[]) (fds : Array FieldInfo := #[]) : ClassFile where
  minorVersion := 0
  majorVersion := 65
  constantPool := pool
  accessFlags := fl
  thisClass := this
  superClass := sup
  interfaces := ifs
  fields := fds
  methods := ms
  attributes := attrs
def plain (name : String) (sup : Option ClassId) : Class where
  name := name
  kind := .ordinary
  loader := none
  accessFlags := 33
  super := sup
  interfaces := #[]
  cf := none
  fields := #[]
  methods := #[]
  instanceTypes := #[]
  staticTypes := #[]
  resolved := #[]
  callSites := []
  init := .initialized
  statics := none
  mirror := none

def pool0 : Array CpInfo := pool [(5, u "<init>"), (0, u "()V"), (1, .class_ 10), (1, u "java/lang/Object")] 113

def k0m0 : Method := { name := "<init>", desc := "()V", sig := { parameters := [], returnType := none }, accessFlags := 1, code := none }
/-- java/lang/Object -/
def k0 : Class := { plain "java/lang/Object" none with
  accessFlags := 33
  interfaces := #[]
  cf := some (fileOf pool0 8 #[] #[{ accessFlags := 1, nameIndex := 5, descriptorIndex := 6, attributes := #[] }] 33 0 #[] #[])
  fields := #[]
  methods := #[k0m0]
  instanceTypes := #[]
  staticTypes := #[]
  resolved := Array.replicate 124 none
  statics := none }

def pool1 : Array CpInfo := pool [(2, .class_ 4), (1, u "java/lang/Object"), (0, u "<init>"), (0, u "()V"), (0, .fieldref 8 9), (0, .class_ 10), (0, .nameAndType 11 12), (0, u "com/example/delayed_task_scheduler/delayedtaskscheduler/TaskState"), (0, u "INIT"), (0, u "Lcom/example/delayed_task_scheduler/delayedtaskscheduler/TaskState;"), (0, .fieldref 8 14), (0, .nameAndType 15 12), (0, u "RUNNING"), (0, .fieldref 8 17), (0, .nameAndType 18 12), (0, u "SUCCESS"), (0, .fieldref 8 20), (0, .nameAndType 21 12), (0, u "FAIL"), (0, .fieldref 8 23), (0, .nameAndType 24 12), (0, u "DEAD"), (0, .fieldref 8 26), (0, .nameAndType 27 12), (0, u "CANCELLED"), (0, .integer 2147483647), (0, .methodref 30 31), (0, .class_ 32), (0, .nameAndType 33 34), (0, u "com/example/delayed_task_scheduler/delayedtaskscheduler/TaskStateIsLivePinLaw"), (0, u "pick"), (0, u "(I)Lcom/example/delayed_task_scheduler/delayedtaskscheduler/TaskState;"), (0, .methodref 8 36), (0, .nameAndType 37 38), (0, u "isLive"), (0, u "()Z"), (0, .methodref 30 40), (0, .nameAndType 41 42), (0, u "expected"), (0, u "(I)Z"), (3, u "law")] 2

def k1m0 : Method := { name := "<init>", desc := "()V", sig := { parameters := [], returnType := none }, accessFlags := 2, code := none }
def k1c1 : Code := { maxStack := 2, maxLocals := 1, code := method_2_code, exceptionTable := #[], attributes := #[] }
def k1m1 : Method := { name := "pick", desc := "(I)Lcom/example/delayed_task_scheduler/delayedtaskscheduler/TaskState;", sig := { parameters := [.int], returnType := some (.object "com/example/delayed_task_scheduler/delayedtaskscheduler/TaskState") }, accessFlags := 10, code := some k1c1 }
def k1c2 : Code := { maxStack := 2, maxLocals := 1, code := method_3_code, exceptionTable := #[], attributes := #[] }
def k1m2 : Method := { name := "expected", desc := "(I)Z", sig := { parameters := [.int], returnType := some .boolean }, accessFlags := 10, code := some k1c2 }
def k1c3 : Code := { maxStack := 2, maxLocals := 3, code := code, exceptionTable := #[], attributes := #[] }
def k1m3 : Method := { name := "law", desc := "(I)Z", sig := { parameters := [.int], returnType := some .boolean }, accessFlags := 9, code := some k1c3 }
/-- com/example/delayed_task_scheduler/delayedtaskscheduler/TaskStateIsLivePinLaw -/
def k1 : Class := { plain "com/example/delayed_task_scheduler/delayedtaskscheduler/TaskStateIsLivePinLaw" (some 0) with
  accessFlags := 49
  interfaces := #[]
  cf := some (fileOf pool1 30 #[] #[{ accessFlags := 2, nameIndex := 5, descriptorIndex := 6, attributes := #[] }, { accessFlags := 10, nameIndex := 33, descriptorIndex := 34, attributes := #[] }, { accessFlags := 10, nameIndex := 41, descriptorIndex := 42, attributes := #[] }, { accessFlags := 9, nameIndex := 46, descriptorIndex := 42, attributes := #[] }] 49 2 #[] #[])
  fields := #[]
  methods := #[k1m0, k1m1, k1m2, k1m3]
  instanceTypes := #[]
  staticTypes := #[]
  resolved := Array.replicate 49 none
  statics := none }

def pool2 : Array CpInfo := pool [(1, .class_ 2), (0, u "java/lang/constant/Constable"), (0, .class_ 4), (0, u "java/lang/Object")] 6

/-- java/lang/constant/Constable -/
def k2 : Class := { plain "java/lang/constant/Constable" (some 0) with
  accessFlags := 1537
  interfaces := #[]
  cf := some (fileOf pool2 1 #[] #[] 1537 3 #[] #[])
  fields := #[]
  methods := #[]
  instanceTypes := #[]
  staticTypes := #[]
  resolved := Array.replicate 11 none
  statics := none }

def pool3 : Array CpInfo := pool [(1, .class_ 2), (0, u "java/lang/Comparable"), (0, .class_ 4), (0, u "java/lang/Object")] 7

/-- java/lang/Comparable -/
def k3 : Class := { plain "java/lang/Comparable" (some 0) with
  accessFlags := 1537
  interfaces := #[]
  cf := some (fileOf pool3 1 #[] #[] 1537 3 #[] #[])
  fields := #[]
  methods := #[]
  instanceTypes := #[]
  staticTypes := #[]
  resolved := Array.replicate 12 none
  statics := none }

def pool4 : Array CpInfo := pool [(1, .class_ 2), (0, u "java/io/Serializable"), (0, .class_ 4), (0, u "java/lang/Object")] 2

/-- java/io/Serializable -/
def k4 : Class := { plain "java/io/Serializable" (some 0) with
  accessFlags := 1537
  interfaces := #[]
  cf := some (fileOf pool4 1 #[] #[] 1537 3 #[] #[])
  fields := #[]
  methods := #[]
  instanceTypes := #[]
  staticTypes := #[]
  resolved := Array.replicate 7 none
  statics := none }

def pool5 : Array CpInfo := pool [(2, .class_ 4), (1, u "java/lang/Enum"), (0, u "name"), (0, u "Ljava/lang/String;"), (2, u "ordinal"), (0, u "I"), (1, .class_ 14), (1, u "java/lang/Object"), (4, u "hash"), (86, .class_ 108), (1, u "java/lang/Enum$EnumDesc"), (2, .class_ 112), (0, u "java/lang/constant/Constable"), (0, .class_ 114), (0, u "java/lang/Comparable"), (0, .class_ 116), (0, u "java/io/Serializable")] 87

/-- java/lang/Enum -/
def k5 : Class := { plain "java/lang/Enum" (some 0) with
  accessFlags := 1057
  interfaces := #[2, 3, 4]
  cf := some (fileOf pool5 2 #[.nestMembers #[106]] #[] 1057 12 #[111, 113, 115] #[{ accessFlags := 18, nameIndex := 5, descriptorIndex := 6, attributes := #[] }, { accessFlags := 18, nameIndex := 9, descriptorIndex := 10, attributes := #[] }, { accessFlags := 2, nameIndex := 19, descriptorIndex := 10, attributes := #[] }])
  fields := #[{ name := "name", type := (.object "java/lang/String"), accessFlags := 18, slot := 0, constantValue := 0 }, { name := "ordinal", type := .int, accessFlags := 18, slot := 1, constantValue := 0 }, { name := "hash", type := .int, accessFlags := 2, slot := 2, constantValue := 0 }]
  methods := #[]
  instanceTypes := #[(.object "java/lang/String"), .int, .int]
  staticTypes := #[]
  resolved := Array.replicate 204 none
  statics := none }

def pool6 : Array CpInfo := pool [(1, .class_ 2), (0, u "com/example/delayed_task_scheduler/delayedtaskscheduler/TaskState"), (0, .fieldref 1 4), (0, .nameAndType 5 6), (0, u "INIT"), (0, u "Lcom/example/delayed_task_scheduler/delayedtaskscheduler/TaskState;"), (0, .fieldref 1 8), (0, .nameAndType 9 6), (0, u "RUNNING"), (2, u "SUCCESS"), (0, .fieldref 1 14), (0, .nameAndType 15 6), (0, u "FAIL"), (2, u "DEAD"), (2, u "CANCELLED"), (2, u "$VALUES"), (0, u "[Lcom/example/delayed_task_scheduler/delayedtaskscheduler/TaskState;"), (6, .class_ 34), (1, u "java/lang/Enum"), (24, u "isLive"), (0, u "()Z")] 5

def k6c0 : Code := { maxStack := 2, maxLocals := 1, code := prog_13_method_4_code, exceptionTable := #[], attributes := #[] }
def k6m0 : Method := { name := "isLive", desc := "()Z", sig := { parameters := [], returnType := some .boolean }, accessFlags := 1, code := some k6c0 }
/-- com/example/delayed_task_scheduler/delayedtaskscheduler/TaskState -/
def k6 : Class := { plain "com/example/delayed_task_scheduler/delayedtaskscheduler/TaskState" (some 5) with
  accessFlags := 16433
  interfaces := #[]
  cf := some (fileOf pool6 1 #[] #[{ accessFlags := 1, nameIndex := 59, descriptorIndex := 60, attributes := #[] }] 16433 32 #[] #[{ accessFlags := 16409, nameIndex := 5, descriptorIndex := 6, attributes := #[] }, { accessFlags := 16409, nameIndex := 9, descriptorIndex := 6, attributes := #[] }, { accessFlags := 16409, nameIndex := 12, descriptorIndex := 6, attributes := #[] }, { accessFlags := 16409, nameIndex := 15, descriptorIndex := 6, attributes := #[] }, { accessFlags := 16409, nameIndex := 18, descriptorIndex := 6, attributes := #[] }, { accessFlags := 16409, nameIndex := 21, descriptorIndex := 6, attributes := #[] }, { accessFlags := 4122, nameIndex := 24, descriptorIndex := 25, attributes := #[] }])
  fields := #[{ name := "INIT", type := (.object "com/example/delayed_task_scheduler/delayedtaskscheduler/TaskState"), accessFlags := 16409, slot := 0, constantValue := 0 }, { name := "RUNNING", type := (.object "com/example/delayed_task_scheduler/delayedtaskscheduler/TaskState"), accessFlags := 16409, slot := 1, constantValue := 0 }, { name := "SUCCESS", type := (.object "com/example/delayed_task_scheduler/delayedtaskscheduler/TaskState"), accessFlags := 16409, slot := 2, constantValue := 0 }, { name := "FAIL", type := (.object "com/example/delayed_task_scheduler/delayedtaskscheduler/TaskState"), accessFlags := 16409, slot := 3, constantValue := 0 }, { name := "DEAD", type := (.object "com/example/delayed_task_scheduler/delayedtaskscheduler/TaskState"), accessFlags := 16409, slot := 4, constantValue := 0 }, { name := "CANCELLED", type := (.object "com/example/delayed_task_scheduler/delayedtaskscheduler/TaskState"), accessFlags := 16409, slot := 5, constantValue := 0 }, { name := "$VALUES", type := (.array (.object "com/example/delayed_task_scheduler/delayedtaskscheduler/TaskState")), accessFlags := 4122, slot := 6, constantValue := 0 }]
  methods := #[k6m0]
  instanceTypes := #[(.object "java/lang/String"), .int, .int]
  staticTypes := #[(.object "com/example/delayed_task_scheduler/delayedtaskscheduler/TaskState"), (.object "com/example/delayed_task_scheduler/delayedtaskscheduler/TaskState"), (.object "com/example/delayed_task_scheduler/delayedtaskscheduler/TaskState"), (.object "com/example/delayed_task_scheduler/delayedtaskscheduler/TaskState"), (.object "com/example/delayed_task_scheduler/delayedtaskscheduler/TaskState"), (.object "com/example/delayed_task_scheduler/delayedtaskscheduler/TaskState"), (.array (.object "com/example/delayed_task_scheduler/delayedtaskscheduler/TaskState"))]
  resolved := Array.replicate 66 none
  statics := some 0 }

def pool7 : Array CpInfo := pool [(1, u "java/lang/Cloneable"), (0, .class_ 1), (0, u "java/lang/Object"), (0, .class_ 3)] 3

/-- java/lang/Cloneable -/
def k7 : Class := { plain "java/lang/Cloneable" (some 0) with
  accessFlags := 1537
  interfaces := #[]
  cf := some (fileOf pool7 2 #[] #[] 1537 4 #[] #[])
  fields := #[]
  methods := #[]
  instanceTypes := #[]
  staticTypes := #[]
  resolved := Array.replicate 8 none
  statics := none }

/-- the primitive byte -/
def k8 : Class := { plain "byte" none with kind := .primitive 'B', accessFlags := 0x411 }
/-- [B -/
def k9 : Class := { plain "[B" (some 0) with kind := .array 8 .byte, interfaces := #[7, 4], accessFlags := 1041 }

/-- the primitive int -/
def k10 : Class := { plain "int" none with kind := .primitive 'I', accessFlags := 0x411 }
/-- [I -/
def k11 : Class := { plain "[I" (some 0) with kind := .array 10 .int, interfaces := #[7, 4], accessFlags := 1041 }

def heap : Heap := #[{ cls := 6, slots := #[.ref 1, .ref 2, .ref 3, .ref 4, .ref 5, .ref 6, .null], vm := .statics 6 },
  { cls := 6, slots := #[.null, .int 0, .int 0], vm := .none },
  { cls := 6, slots := #[.null, .int 1, .int 0], vm := .none },
  { cls := 6, slots := #[.null, .int 2, .int 0], vm := .none },
  { cls := 6, slots := #[.null, .int 3, .int 0], vm := .none },
  { cls := 6, slots := #[.null, .int 4, .int 0], vm := .none },
  { cls := 6, slots := #[.null, .int 5, .int 0], vm := .none }]
def classes : Array Class := #[k0, k1, k2, k3, k4, k5, k6, k7, k8, k9, k10, k11]
def interned : List (Array UInt16 × Addr) := []
def slotsUsed : Nat := 25
def theMethod : MethodId := ⟨1, 3⟩
def args0 : Array Value := #[.int 1]
def aboutOver (below : List Frame) : State where
  vm := { classes := classes, interned := interned.toArray }
  heap := heap
  slotsUsed := slotsUsed
  threads := #[{ frames := .invoking theMethod args0 :: below }]
def below0 : List Frame := [.native { method := ⟨0, 0⟩, args := #[] }]
def about1 : State := aboutOver below0
def p0 : Program := .bare "" "" ""
def e0 : Env := launch0.env 0 0 0
theorem w_frames : about1.frames = Frame.invoking theMethod args0 :: below0 := rfl
set_option maxRecDepth 65536 in
theorem w_args : argsFit about1.vm theMethod args0 = true := by decide +kernel
set_option maxRecDepth 65536 in
theorem w_heap : heapFits about1 = true := by decide +kernel
set_option maxRecDepth 65536 in
theorem w_runnable : about1.curStatus? = some .runnable := by decide +kernel
set_option maxRecDepth 65536 in
theorem w_alone : about1.alone = true := by decide +kernel
set_option maxRecDepth 65536 in
theorem w_named : about1.methodNamed? x = some theMethod := by decide +kernel
set_option maxRecDepth 65536 in
theorem w_hears : about1.hears theMethod below0 = true := by decide +kernel
set_option maxRecDepth 65536 in
theorem w_ripe : about1.ripe theMethod args0 below0 = true := by decide +kernel
theorem w_running : about1.status = .running := rfl
set_option maxRecDepth 65536 in
theorem w_room : about1.hasRoom e0.platform room_1 = true :=
  launch0.hasRoom_least _ room_1 (by decide +kernel) (by decide +kernel) (by decide +kernel) (by decide +kernel) (by decide +kernel) (by decide +kernel)
theorem allAtoms_all (ts : List Jvm.Cond) (a : Array Jvm.Value) (st : Jvm.State) : (allAtoms ts).before a st = ts.all (fun c => c.before a st) := by
  induction ts with
  | nil => rfl
  | cons c t ih =>
    show (Jvm.Cond.and c (allAtoms t)).before a st = _
    rw [Jvm.Cond.before_and, ih, List.all_cons]
def words1 : List Jvm.Cond := Jvm.Cond.code x code maxLocals ret :: tables_1
/-- a 'code' word, met by the world's own term for the bytes: nothing is compared byte by byte -/
theorem code_word {y : MethodName} {bytes : ByteArray} {mx : Nat} {rt : Option FieldType} {a : Array Value} {s : State} {m : MethodId} {meth : Method} {c : Code} (h1 : s.methodNamed? y = some m) (h2 : s.vm.method? m = some meth) (h3 : meth.code = some c) (h4 : c.code = bytes)
    (h5 : (c.maxLocals == mx && c.exceptionTable.isEmpty && decide (c.maxStack ≤ mostOperands) && decide (meth.sig.returnType = rt) && !meth.locks && decide (parseMethodDescriptor y.desc = some meth.sig)) = true) : (Jvm.Cond.code y bytes mx rt).before a s = true := by
  simp only [Bool.and_eq_true, beq_iff_eq, Bool.not_eq_true', decide_eq_true_eq] at h5
  obtain ⟨⟨⟨⟨⟨g1, g2⟩, g3⟩, g4⟩, g5⟩, g6⟩ := h5
  simp [Cond.before, Cond.holds, Cond.value, h1, h2, h3, h4, g1, g2, g3, g4, g5, g6]
def isCode : Jvm.Cond → Bool
  | .code _ _ _ _ => true
  | _ => false
theorem all_split {L : List Jvm.Cond} {P : Jvm.Cond → Bool} (h1 : L.all (fun c => isCode c || P c) = true) (h2 : ∀ c ∈ L.filter isCode, P c = true) : L.all P = true := by
  refine List.all_eq_true.mpr fun c hc => ?_
  have h := List.all_eq_true.mp h1 c hc
  rcases Bool.eq_false_or_eq_true (isCode c) with hi | hi
  · exact h2 c (List.mem_filter.mpr ⟨hc, hi⟩)
  · simpa [hi] using h
set_option maxRecDepth 65536 in
theorem w_c0 : (Jvm.Cond.code x code maxLocals ret).before args0 about1 = true := code_word (m := ⟨1, 3⟩) (meth := k1m3) (c := k1c3) (by decide +kernel) rfl rfl rfl (by decide +kernel)
set_option maxRecDepth 65536 in
theorem w_c1 : (Jvm.Cond.code ({ cls := "com/example/delayed_task_scheduler/delayedtaskscheduler/TaskStateIsLivePinLaw", name := "pick", desc := "(I)Lcom/example/delayed_task_scheduler/delayedtaskscheduler/TaskState;" } : Jvm.MethodName) method_2_code (1 : Nat) (Option.some (Jvm.ClassFile.FieldType.object "com/example/delayed_task_scheduler/delayedtaskscheduler/TaskState"))).before args0 about1 = true := code_word (m := ⟨1, 1⟩) (meth := k1m1) (c := k1c1) (by decide +kernel) rfl rfl rfl (by decide +kernel)
set_option maxRecDepth 65536 in
theorem w_c2 : (Jvm.Cond.code ({ cls := "com/example/delayed_task_scheduler/delayedtaskscheduler/TaskState", name := "isLive", desc := "()Z" } : Jvm.MethodName) prog_13_method_4_code (1 : Nat) (Option.some Jvm.ClassFile.FieldType.boolean)).before args0 about1 = true := code_word (m := ⟨6, 0⟩) (meth := k6m0) (c := k6c0) (by decide +kernel) rfl rfl rfl (by decide +kernel)
set_option maxRecDepth 65536 in
theorem w_c3 : (Jvm.Cond.code ({ cls := "com/example/delayed_task_scheduler/delayedtaskscheduler/TaskStateIsLivePinLaw", name := "expected", desc := "(I)Z" } : Jvm.MethodName) method_3_code (1 : Nat) (Option.some Jvm.ClassFile.FieldType.boolean)).before args0 about1 = true := code_word (m := ⟨1, 2⟩) (meth := k1m2) (c := k1c2) (by decide +kernel) rfl rfl rfl (by decide +kernel)
def codes1 : List Jvm.Cond := [Jvm.Cond.code x code maxLocals ret, Jvm.Cond.code ({ cls := "com/example/delayed_task_scheduler/delayedtaskscheduler/TaskStateIsLivePinLaw", name := "pick", desc := "(I)Lcom/example/delayed_task_scheduler/delayedtaskscheduler/TaskState;" } : Jvm.MethodName) method_2_code (1 : Nat) (Option.some (Jvm.ClassFile.FieldType.object "com/example/delayed_task_scheduler/delayedtaskscheduler/TaskState")), Jvm.Cond.code ({ cls := "com/example/delayed_task_scheduler/delayedtaskscheduler/TaskState", name := "isLive", desc := "()Z" } : Jvm.MethodName) prog_13_method_4_code (1 : Nat) (Option.some Jvm.ClassFile.FieldType.boolean), Jvm.Cond.code ({ cls := "com/example/delayed_task_scheduler/delayedtaskscheduler/TaskStateIsLivePinLaw", name := "expected", desc := "(I)Z" } : Jvm.MethodName) method_3_code (1 : Nat) (Option.some Jvm.ClassFile.FieldType.boolean)]
set_option maxRecDepth 65536 in
theorem codes_eq : words1.filter isCode = codes1 := rfl
theorem w_codes : ∀ c ∈ words1.filter isCode, c.before args0 about1 = true := by
  rw [codes_eq]
  intro c hc
  simp only [codes1, List.mem_cons, List.not_mem_nil, or_false] at hc
  rcases hc with rfl | rfl | rfl | rfl
  · exact w_c0
  · exact w_c1
  · exact w_c2
  · exact w_c3
set_option maxRecDepth 65536 in
theorem w_t1 : (words1.take 24).all (fun c => isCode c || c.before args0 about1) = true := by decide +kernel
set_option maxRecDepth 65536 in
theorem w_t2 : (words1.drop 24).all (fun c => isCode c || c.before args0 about1) = true := by decide +kernel
theorem w_tables : (allAtoms (Jvm.Cond.code x code maxLocals ret :: tables_1)).before args0 about1 = true := by
  rw [allAtoms_all]
  show words1.all (fun c => c.before args0 about1) = true
  refine all_split ?_ w_codes
  rw [← List.take_append_drop 24 words1, List.all_append, w_t1, w_t2]
  rfl
set_option maxRecDepth 65536 in
theorem w_case : (Jvm.Cond.and given_1 narrow_1).before args0 about1 = true := by decide +kernel
theorem w_applies : (headSpec (Jvm.Cond.code x code maxLocals ret :: tables_1) room_1).applies x e0.platform about1 = true :=
  (Spec.applies_iff w_frames).mpr ⟨w_running, w_runnable, w_alone, w_named, w_hears, w_ripe, w_room, w_tables⟩
theorem atStart : AtStart classFile x code maxLocals ret World_1 tables_1 room_1 Calls_1 rest_1 Pre_1 launch0 p0 e0 about1 theMethod args0 below0 :=
  ⟨lists_1, trivial, launch0.admits_env _ _ _, launch0.least_env, fairChoices_fair.cas, fairChoices_fair.clock, w_frames, w_args, w_heap, w_applies, trivial, trivial, w_case⟩
end start1
theorem witness_1 : WitnessClaimed_1 := ⟨start1.p0, start1.e0, start1.about1, start1.theMethod, start1.args0, start1.below0, start1.atStart⟩
end Jvm.Pilot.@@N@@
