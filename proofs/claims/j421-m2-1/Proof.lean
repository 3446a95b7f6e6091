import JvmDerived
import JvmDerived.Pilot.@@N@@Statement
import JvmDerived.Pilot.@@N@@Code
set_option linter.unusedVariables false
set_option linter.unusedSimpArgs false
namespace Jvm.Pilot.@@N@@
open Jvm Jvm.ClassFile Sem Op Lib Jvm.Free Jvm.Stand Jvm.LawKit Jvm.RoadKit Bundle Jvm.Pilot.@@N@@.Jvm.D
section Own
variable {p : Program} {l : Launch} {e : Env} {R : Room} {s : State} {m : MethodId} {args : Array Value} {below : List Frame} {meth : Method} {c : Code} {T : State} {locs : List Loc} {cells slots : Nat} {Z : State} {a0 : Array Value} {h h' : Heap} {Q : Option Value → Heap → List Loc → Prop} {rc rs : Nat}
/-- from here the run comes to its return, and what it leaves is Q -/
def Ends (p : Program) (e : Env) (below : List Frame) (s : State) (Q : Option Value → Heap → List Loc → Prop) (rc rs : Nat) (T : State) (g : JFrame) : Prop :=
  ∃ s₂ o, Steps p.tables e below (T.setTop g) s₂ ∧ s₂.status = .running ∧ Ended s₂ below o ∧ ∃ v L, o = .returned v ∧ Q v s₂.heap L ∧ FrameEnd s o s₂ L rc rs
theorem go {T' : State} {g g' : JFrame} (f : ∀ t, Steps p.tables e below (T'.setTop g') t → Steps p.tables e below (T.setTop g) t) (k : Ends p e below s Q rc rs T' g') : Ends p e below s Q rc rs T g := by
  obtain ⟨s₂, o, h1, r⟩ := k
  exact ⟨s₂, o, f _ h1, r⟩
theorem goS {T' : State} {g g' : JFrame} (f : Steps p.tables e below (T.setTop g) (T'.setTop g')) (k : Ends p e below s Q rc rs T' g') : Ends p e below s Q rc rs T g := by
  obtain ⟨s₂, o, h1, r⟩ := k
  exact ⟨s₂, o, f.trans h1, r⟩
theorem retI (X : Stand p l e R s m args below meth c T locs cells slots) (hx : p.tables.exec = Jvm.exec) {pc : Nat} {Ls : Array Slot} {z : Int32} {rest : List Value} (hret : meth.sig.returnType = some .int) (hd : decode c.code pc = .ok (.ireturn, 1)) {fs : List Frame}
    (hl : ∀ (f : JFrame) (acts : List Action), f.method = m → f.locked = none → f.entered = [] → (doReturn e (T.setTop f) acts (some (.int z))).1 = T.setFrames fs) : Steps p.tables e below (T.setTop (mkF m pc Ls (.int z :: rest))) (T.setFrames fs) := by
  have hm' : T.vm.method? m = some meth := X.method'
  have hn : narrow .int (.int z) = .int z := rfl
  show Steps p.tables e below (T.setTop { method := m, pc := pc, locals := Ls, stack := _ :: rest, locked := none }) _
  jvm_step X.here [X.here.top, hx, hd, hm', hret, hn]
  first | (intro acts; rw [hl _ acts rfl rfl rfl]) | rw [hl _ _ rfl rfl rfl]
  exact Steps.refl _
theorem endI (X : Stand p l e R s m args below meth c T locs cells slots) (hx : p.tables.exec = Jvm.exec) (hlk : meth.locks = false) {pc : Nat} {Ls : Array Slot} {z : Int32} {rest : List Value} (hret : meth.sig.returnType = some .int) (hd : decode c.code pc = .ok (.ireturn, 1)) (eT : T.heap = h) (hq : Q (some (.int z)) h locs) (hc : cells ≤ rc) (hs : slots ≤ rs) :
    Ends p e below s Q rc rs T (mkF m pc Ls (.int z :: rest)) := by
  subst eT
  obtain ⟨fs, hr, hrun, hended, hW, hsame⟩ := X.leave (v := some (.int z)) (fun h => by rw [hret] at h; cases h) hlk
  exact ⟨_, _, retI X hx hret hd hr, hrun, hended, _, _, rfl, hq, ⟨_, rfl⟩, hW, hsame.mono hc hs⟩
/-- a boolean, byte, char or short: what is returned is narrowed -/
theorem endN (X : Stand p l e R s m args below meth c T locs cells slots) (hx : p.tables.exec = Jvm.exec) (hlk : meth.locks = false) {pc : Nat} {Ls : Array Slot} {z : Int32} {t : FieldType} {rest : List Value} (hret : meth.sig.returnType = some t) (ht : t = .boolean ∨ t = .byte ∨ t = .char ∨ t = .short) (hd : decode c.code pc = .ok (.ireturn, 1)) (eT : T.heap = h) (hq : Q (some (.int (nar t z))) h locs) (hc : cells ≤ rc) (hs : slots ≤ rs) :
    Ends p e below s Q rc rs T (mkF m pc Ls (.int z :: rest)) := by
  subst eT
  obtain ⟨fs, hr, hrun, hended, hW, hsame⟩ := X.leave (v := some (.int (nar t z))) (fun h => by rw [hret] at h; cases h) hlk
  exact ⟨_, _, retN X hx hret ht hd hr, hrun, hended, _, _, rfl, hq, ⟨_, rfl⟩, hW, hsame.mono hc hs⟩
theorem endA (X : Stand p l e R s m args below meth c T locs cells slots) (hx : p.tables.exec = Jvm.exec) (hlk : meth.locks = false) {pc : Nat} {Ls : Array Slot} {w : Value} {t : FieldType} {rest : List Value} (hret : meth.sig.returnType = some t) (ht : t.isReference = true) (hw : w.isRef = true) (hd : decode c.code pc = .ok (.areturn, 1)) (eT : T.heap = h) (hq : Q (some w) h locs) (hc : cells ≤ rc) (hs : slots ≤ rs) :
    Ends p e below s Q rc rs T (mkF m pc Ls (w :: rest)) := by
  subst eT
  obtain ⟨fs, hr, hrun, hended, hW, hsame⟩ := X.leave (v := some w) (fun h => by rw [hret] at h; cases h) hlk
  have hn : narrow t w = w := by rcases ref_cases hw with rfl | ⟨b, rfl⟩ <;> cases t <;> rfl
  exact ⟨_, _, retOut X hx hret hn (Or.inr (Or.inr (Or.inr (Or.inr ⟨rfl, ht, hw⟩)))) hd hr, hrun, hended, _, _, rfl, hq, ⟨_, rfl⟩, hW, hsame.mono hc hs⟩
theorem endJ (X : Stand p l e R s m args below meth c T locs cells slots) (hx : p.tables.exec = Jvm.exec) (hlk : meth.locks = false) {pc : Nat} {Ls : Array Slot} {z : Int64} {rest : List Value} (hret : meth.sig.returnType = some .long) (hd : decode c.code pc = .ok (.lreturn, 1)) (eT : T.heap = h) (hq : Q (some (.long z)) h locs) (hc : cells ≤ rc) (hs : slots ≤ rs) :
    Ends p e below s Q rc rs T (mkF m pc Ls (.long z :: rest)) := by
  subst eT
  obtain ⟨fs, hr, hrun, hended, hW, hsame⟩ := X.leave (v := some (.long z)) (fun h => by rw [hret] at h; cases h) hlk
  exact ⟨_, _, retOut X hx hret rfl (Or.inr (Or.inl ⟨rfl, rfl, z, rfl⟩)) hd hr, hrun, hended, _, _, rfl, hq, ⟨_, rfl⟩, hW, hsame.mono hc hs⟩
theorem endV (X : Stand p l e R s m args below meth c T locs cells slots) (hx : p.tables.exec = Jvm.exec) (hlk : meth.locks = false) {pc : Nat} {Ls : Array Slot} (hret : meth.sig.returnType = none) (hd : decode c.code pc = .ok (.return_, 1)) (eT : T.heap = h) (hq : Q none h locs) (hc : cells ≤ rc) (hs : slots ≤ rs) :
    Ends p e below s Q rc rs T (mkF m pc Ls []) := by
  subst eT
  obtain ⟨fs, hr, hrun, hended, hW, hsame⟩ := X.leave (v := none) (fun _ => rfl) hlk
  exact ⟨_, _, X.returnOut hx hret hd hr, hrun, hended, _, _, rfl, hq, ⟨_, rfl⟩, hW, hsame.mono hc hs⟩
/-- a method's contract, at one heap and one list of arguments -/
def Con (l : Launch) (y : MethodName) (bytes : ByteArray) (maxL : Nat) (ret : Option FieldType) (rm : Room) (Z : State) (as' : Array Value) (h0 : Heap) (Q : Option Value → Heap → List Loc → Prop) : Prop :=
  ∀ ws, MetFree l y (head1 (Jvm.Cond.code y bytes maxL ret :: ws) rm) (fun a U => a = as' ∧ Z.Warmed39 U.vm ∧ U.heap = h0) (fun _ _ _ _ _ => True) (fun _ U o U' => ∃ v L, o = .returned v ∧ Q v U'.heap L ∧ FrameEnd U o U' L rm.cells rm.slots)
theorem Con.of {y : MethodName} {bytes : ByteArray} {maxL : Nat} {ret : Option FieldType} {rm : Room} {as' : Array Value} {h0 : Heap} (hp : plainFor y = true) {Ls : Array Slot} (hef : ∀ m, entryFrame m as' maxL = mkF m 0 Ls [])
    (body : ∀ {p : Program} {e : Env} {s : State} {m : MethodId} {below : List Frame} {meth : Method} {c : Code} {T : State}, Stand p l e rm s m as' below meth c T [] 0 0 → p.tables.exec = Jvm.exec → Z.Warmed39 s.vm → c.code = bytes → c.maxLocals = maxL → s.vm.findClass y.cls = some m.cls → meth.name = y.name → meth.sig.returnType = ret → meth.locks = false → T.heap = h0 → Ends p e below s Q rm.cells rm.slots T (mkF m 0 Ls [])) :
    Con l y bytes maxL ret rm Z as' h0 Q := by
  intro ws
  refine MetFree.of_bodySF hp hisR ?_
  intro p e s m args below meth c s₁ Bd hml0 hP hK
  obtain ⟨rfl, hZ, hh⟩ := hP
  have X0 : Stand p l e rm s m _ below meth c s₁ [] 0 0 := Stand.of_body Bd
  have e0 : s₁.heap = h0 := by rw [← hh, Bd.state]; rfl
  obtain ⟨s₂, o, h1, r⟩ := body X0 Bd.exec hZ Bd.bytes hml0 (findClass_of_methodNamed Bd.named) (name_of_methodNamed Bd.named Bd.method).1 Bd.returns Bd.notSynchronized e0
  exact ⟨s₂, o, castTop (hef m) h1, r⟩
theorem cStat {own : String} {index : Nat} {y : MethodName} {bytes : ByteArray} {maxL : Nat} {ret : Option FieldType} {rm : Room} {Q' : Option Value → Heap → List Loc → Prop} {pc : Nat} {Ls : Array Slot} {st : List Value}
    (X : Stand p l e R s m args below meth c T locs cells slots) (hx : p.tables.exec = Jvm.exec) (hZ : Z.Warmed39 s.vm) (hown : s.vm.findClass own = some m.cls) (hml : Ls.size = c.maxLocals) (eT : T.heap = h)
    (w1 : (Cond.methodLink own index y).before a0 Z = true) (w2 : (Cond.static y).before a0 Z = true) (w3 : (Cond.initialized y.cls).before a0 Z = true) (w4 : (Cond.code y bytes maxL ret).before a0 Z = true)
    (argsL rest : List Value) {as' : Array Value} (has : argsL.toArray = as') (hM : Con l y bytes maxL ret rm Z as' h Q') (hd : decode c.code pc = .ok (.invokestatic index, 3)) (hst : st = argsL.reverse ++ rest)
    (hlen : ∀ sig, parseMethodDescriptor y.desc = some sig → argsL.length = sig.parameters.length) (hy : y.cls ≠ "java/lang/invoke/MethodHandle" ∧ y.cls ≠ "java/lang/invoke/VarHandle")
    (hf : rm.frames + 1 ≤ R.frames) (hl : (rest.map fun v => v.category).sum + (maxL + 11) + rm.locals ≤ R.locals) (hc : cells + rm.cells ≤ R.cells) (hs : slots + rm.slots ≤ R.slots)
    (k : ∀ v T' h' L, Stand p l e R s m args below meth c T' (locs ++ L) (cells + rm.cells) (slots + rm.slots) → T'.heap = h' → Q' v h' L → Ends p e below s Q rc rs T' (mkF m (pc + 3) Ls (v.toList ++ rest))) :
    Ends p e below s Q rc rs T (mkF m pc Ls st) := by
  subst has
  obtain ⟨v, _, ⟨T', L', k', n'⟩, -, X', ⟨Lc, hQ, e1, e2, e3⟩, stp⟩ := Jvm.LawKit.callS X hx (y := y) hown (mvT hZ w1) (mvT hZ w2) (mvT hZ w3) (mvT hZ w4) hy (backOf (W := (rest.map fun v => v.category).sum) (hM []) hZ w4 w3 hf hl) (g := mkF m pc Ls st) rfl hml (argsL := argsL) (rest := rest) hlen hst (by show 2 * 0 + _ ≤ _; omega) hd (fun _ _ => ⟨rfl, eT, hc, hs⟩)
  dsimp only [Pt.U, Pt.locs, Pt.cells, Pt.slots] at X' e1 e2 e3 stp hQ
  subst e1 e2 e3
  exact go stp (k v T' _ Lc X' rfl hQ)
theorem cInit {own : String} {index : Nat} {y : MethodName} {bytes : ByteArray} {maxL : Nat} {rm : Room} {Q' : Option Value → Heap → List Loc → Prop} {pc : Nat} {Ls : Array Slot} {st : List Value}
    (X : Stand p l e R s m args below meth c T locs cells slots) (hx : p.tables.exec = Jvm.exec) (hZ : Z.Warmed39 s.vm) (hown : s.vm.findClass own = some m.cls) (hml : Ls.size = c.maxLocals) (eT : T.heap = h)
    (w1 : (Cond.methodLink own index y).before a0 Z = true) (w2 : (Cond.instanceMethod y).before a0 Z = true) (w3 : (Cond.initialized y.cls).before a0 Z = true) (w4 : (Cond.code y bytes maxL none).before a0 Z = true)
    (a : Addr) (argsL rest : List Value) {as' : Array Value} (has : (.ref a :: argsL).toArray = as') (hM : Con l y bytes maxL none rm Z as' h Q') (hd : decode c.code pc = .ok (.invokespecial index, 3)) (hst : st = argsL.reverse ++ .ref a :: rest)
    (hlen : ∀ sig, parseMethodDescriptor y.desc = some sig → argsL.length = sig.parameters.length) (hy1 : y.name = "<init>") (hy : y.cls ≠ "java/lang/invoke/MethodHandle" ∧ y.cls ≠ "java/lang/invoke/VarHandle")
    (hf : rm.frames + 1 ≤ R.frames) (hl : (rest.map fun v => v.category).sum + (maxL + 11) + rm.locals ≤ R.locals) (hc : cells + rm.cells ≤ R.cells) (hs : slots + rm.slots ≤ R.slots)
    (k : ∀ v T' h' L, Stand p l e R s m args below meth c T' (locs ++ L) (cells + rm.cells) (slots + rm.slots) → T'.heap = h' → Q' v h' L → Ends p e below s Q rc rs T' (mkF m (pc + 3) Ls (v.toList ++ rest))) :
    Ends p e below s Q rc rs T (mkF m pc Ls st) := by
  subst has
  obtain ⟨v, _, ⟨T', L', k', n'⟩, -, X', ⟨Lc, hQ, e1, e2, e3⟩, stp⟩ := X.specialBack hx (y := y) hy1 hown (mvT hZ w1) (mvT hZ w2) (mvT hZ w4) hy (backOf (W := (rest.map fun v => v.category).sum) (hM []) hZ w4 w3 hf hl) (g := mkF m pc Ls st) rfl hml (Steps.refl _) (a := a) (argsL := argsL) (rest := rest) hlen hst (by show 2 * 0 + _ ≤ _; omega) hd (fun _ _ => ⟨rfl, eT, hc, hs⟩)
  dsimp only [Pt.U, Pt.locs, Pt.cells, Pt.slots] at X' e1 e2 e3 stp hQ
  subst e1 e2 e3
  exact goS stp (k v T' _ Lc X' rfl hQ)
theorem cVirt {own K : String} {index : Nat} {y z : MethodName} {bytes : ByteArray} {maxL : Nat} {ret : Option FieldType} {rm : Room} {Q' : Option Value → Heap → List Loc → Prop} {pc : Nat} {Ls : Array Slot} {st : List Value}
    (X : Stand p l e R s m args below meth c T locs cells slots) (hx : p.tables.exec = Jvm.exec) (hZ : Z.Warmed39 s.vm) (hown : s.vm.findClass own = some m.cls) (hml : Ls.size = c.maxLocals) (eT : T.heap = h)
    (w1 : (Cond.methodLink own index y).before a0 Z = true) (w2 : (Cond.declares y).before a0 Z = true) (w3 : (Cond.selects K y z).before a0 Z = true) (w4 : (Cond.instanceMethod z).before a0 Z = true) (w5 : (Cond.initialized z.cls).before a0 Z = true) (w6 : (Cond.code z bytes maxL ret).before a0 Z = true) (hnf : NotFace s y)
    (a : Addr) (E : Exa Z h a K) (argsL rest : List Value) {as' : Array Value} (has : (.ref a :: argsL).toArray = as') (hM : Con l z bytes maxL ret rm Z as' h Q') (hd : decode c.code pc = .ok (.invokevirtual index, 3)) (hst : st = argsL.reverse ++ .ref a :: rest)
    (hlen : ∀ sig, parseMethodDescriptor y.desc = some sig → argsL.length = sig.parameters.length) (hy : y.cls ≠ "java/lang/invoke/MethodHandle" ∧ y.cls ≠ "java/lang/invoke/VarHandle")
    (hf : rm.frames + 1 ≤ R.frames) (hl : (rest.map fun v => v.category).sum + (maxL + 11) + rm.locals ≤ R.locals) (hc : cells + rm.cells ≤ R.cells) (hs : slots + rm.slots ≤ R.slots)
    (k : ∀ v T' h' L, Stand p l e R s m args below meth c T' (locs ++ L) (cells + rm.cells) (slots + rm.slots) → T'.heap = h' → Q' v h' L → Ends p e below s Q rc rs T' (mkF m (pc + 3) Ls (v.toList ++ rest))) :
    Ends p e below s Q rc rs T (mkF m pc Ls st) := by
  subst has
  obtain ⟨cq, kq, qa, qb, qc⟩ := isOf hZ eT E
  obtain ⟨v, _, ⟨T', L', k', n'⟩, -, X', ⟨Lc, hQ, e1, e2, e3⟩, stp⟩ := X.virtualBack hx (y := y) (z := z) hown (mvT hZ w1) (mvT hZ w2) hnf (mvT hZ w3) (mvT hZ w4) hy (backOf (W := (rest.map fun v => v.category).sum) (hM []) hZ w6 w5 hf hl) qa qc (g := mkF m pc Ls st) rfl hml (Steps.refl _) (argsL := argsL) (rest := rest) hlen hst (by show 2 * 0 + _ ≤ _; omega) hd (fun _ _ => ⟨rfl, eT, hc, hs⟩)
  dsimp only [Pt.U, Pt.locs, Pt.cells, Pt.slots] at X' e1 e2 e3 stp hQ
  subst e1 e2 e3
  exact goS stp (k v T' _ Lc X' rfl hQ)
theorem cFace {own K : String} {index count : Nat} {y z : MethodName} {bytes : ByteArray} {maxL : Nat} {ret : Option FieldType} {rm : Room} {Q' : Option Value → Heap → List Loc → Prop} {pc : Nat} {Ls : Array Slot} {st : List Value}
    (X : Stand p l e R s m args below meth c T locs cells slots) (hx : p.tables.exec = Jvm.exec) (hZ : Z.Warmed39 s.vm) (hown : s.vm.findClass own = some m.cls) (hml : Ls.size = c.maxLocals) (eT : T.heap = h)
    (w1 : (Cond.methodLink own index y).before a0 Z = true) (w2 : (Cond.declares y).before a0 Z = true) (wf : (Cond.interfaceMethod y.cls y.cls y.name y.desc).before args s = true) (w3 : (Cond.selects K y z).before a0 Z = true) (w4 : (Cond.instanceMethod z).before a0 Z = true) (wp : (Cond.publicMethod z).before a0 Z = true) (wu : (Cond.unhidden K y.name y.desc).before args s = true) (wc : (Cond.castable K y.cls).before a0 Z = true) (w5 : (Cond.initialized z.cls).before a0 Z = true) (w6 : (Cond.code z bytes maxL ret).before a0 Z = true)
    (a : Addr) (E : Exa Z h a K) (argsL rest : List Value) {as' : Array Value} (has : (.ref a :: argsL).toArray = as') (hM : Con l z bytes maxL ret rm Z as' h Q') (hd : decode c.code pc = .ok (.invokeinterface index count, 5)) (hst : st = argsL.reverse ++ .ref a :: rest)
    (hlen : ∀ sig, parseMethodDescriptor y.desc = some sig → argsL.length = sig.parameters.length) (hy : y.cls ≠ "java/lang/invoke/MethodHandle" ∧ y.cls ≠ "java/lang/invoke/VarHandle")
    (hf : rm.frames + 1 ≤ R.frames) (hl : (rest.map fun v => v.category).sum + (maxL + 11) + rm.locals ≤ R.locals) (hc : cells + rm.cells ≤ R.cells) (hs : slots + rm.slots ≤ R.slots)
    (k : ∀ v T' h' L, Stand p l e R s m args below meth c T' (locs ++ L) (cells + rm.cells) (slots + rm.slots) → T'.heap = h' → Q' v h' L → Ends p e below s Q rc rs T' (mkF m (pc + 5) Ls (v.toList ++ rest))) :
    Ends p e below s Q rc rs T (mkF m pc Ls st) := by
  subst has
  obtain ⟨cq, kq, qa, qb, qc⟩ := isOf hZ eT E
  obtain ⟨v, _, ⟨T', L', k', n'⟩, -, X', ⟨Lc, hQ, e1, e2, e3⟩, stp⟩ := X.interfaceBack hx (xi := y) (y := z) hown (mvT hZ w1) (mvT hZ w2) wf (mvT hZ w3) (mvT hZ w4) (mvT hZ wp) wu (mvT hZ wc) hy (backOf (W := (rest.map fun v => v.category).sum) (hM []) hZ w6 w5 hf hl) qa qb qc (g := mkF m pc Ls st) rfl hml (Steps.refl _) (argsL := argsL) (rest := rest) hlen hst (by show 2 * 0 + _ ≤ _; omega) hd (fun _ _ => ⟨rfl, eT, hc, hs⟩)
  dsimp only [Pt.U, Pt.locs, Pt.cells, Pt.slots] at X' e1 e2 e3 stp hQ
  subst e1 e2 e3
  exact goS stp (k v T' _ Lc X' rfl hQ)
theorem xx (O : Ext Z.heap h) (E : Ext h h') : Ext Z.heap h' := ⟨Nat.le_trans O.1 E.1, fun a c q => E.2 _ _ (O.2 _ _ q)⟩
theorem xk {ws : List Addr} (O : Ext Z.heap h) (K : Keep h h' ws) (q : ∀ x ∈ ws, Z.heap.size ≤ x) : Ext Z.heap h' := (Old.keep ⟨rfl, O⟩ K q).2
theorem xw {a : Addr} {sl : Nat} {v : Value} (O : Ext Z.heap h) (W : Wr h h' a sl v) (q : Z.heap.size ≤ a) : Ext Z.heap h' := (Old.wr ⟨rfl, O⟩ W q).2
theorem ke (E : Ext h h') : Keep h h' [] := (Keep.refl h []).ext E
theorem ek (K : Keep h h' []) : Ext h h' := ⟨K.1, fun a c q => K.2.1 a c q nin0⟩
end Own
theorem pn_0 : plainName "com/example/pedestrain/pedestrain/core/Grid" = true := by first | (simp [plainName, overriddenIn]; done) | decide +kernel
theorem d_prog_14_method_19_0 : decode prog_14_method_19_code 0 = .ok (.iconst (-1), 1) := by decide +kernel
theorem d_prog_14_method_19_1 : decode prog_14_method_19_code 1 = .ok (.istore_n 2, 1) := by decide +kernel
theorem d_prog_14_method_19_2 : decode prog_14_method_19_code 2 = .ok (.iconst 0, 1) := by decide +kernel
theorem d_prog_14_method_19_3 : decode prog_14_method_19_code 3 = .ok (.istore_n 3, 1) := by decide +kernel
theorem d_prog_14_method_19_4 : decode prog_14_method_19_code 4 = .ok (.iload_n 3, 1) := by decide +kernel
theorem d_prog_14_method_19_5 : decode prog_14_method_19_code 5 = .ok (.bipush 8, 2) := by decide +kernel
theorem d_prog_14_method_19_7 : decode prog_14_method_19_code 7 = .ok (.if_icmp .ge 33, 3) := by decide +kernel
theorem d_prog_14_method_19_10 : decode prog_14_method_19_code 10 = .ok (.iload_n 2, 1) := by decide +kernel
theorem d_prog_14_method_19_11 : decode prog_14_method_19_code 11 = .ok (.ifCond .ge 29, 3) := by decide +kernel
theorem d_prog_14_method_19_14 : decode prog_14_method_19_code 14 = .ok (.getstatic 188, 3) := by decide +kernel
theorem d_prog_14_method_19_17 : decode prog_14_method_19_code 17 = .ok (.iload_n 3, 1) := by decide +kernel
theorem d_prog_14_method_19_18 : decode prog_14_method_19_code 18 = .ok (.iaload, 1) := by decide +kernel
theorem d_prog_14_method_19_19 : decode prog_14_method_19_code 19 = .ok (.iload_n 0, 1) := by decide +kernel
theorem d_prog_14_method_19_20 : decode prog_14_method_19_code 20 = .ok (.if_icmp .ne 14, 3) := by decide +kernel
theorem d_prog_14_method_19_23 : decode prog_14_method_19_code 23 = .ok (.getstatic 191, 3) := by decide +kernel
theorem d_prog_14_method_19_26 : decode prog_14_method_19_code 26 = .ok (.iload_n 3, 1) := by decide +kernel
theorem d_prog_14_method_19_27 : decode prog_14_method_19_code 27 = .ok (.iaload, 1) := by decide +kernel
theorem d_prog_14_method_19_28 : decode prog_14_method_19_code 28 = .ok (.iload_n 1, 1) := by decide +kernel
theorem d_prog_14_method_19_29 : decode prog_14_method_19_code 29 = .ok (.if_icmp .ne 5, 3) := by decide +kernel
theorem d_prog_14_method_19_32 : decode prog_14_method_19_code 32 = .ok (.iload_n 3, 1) := by decide +kernel
theorem d_prog_14_method_19_33 : decode prog_14_method_19_code 33 = .ok (.istore_n 2, 1) := by decide +kernel
theorem d_prog_14_method_19_34 : decode prog_14_method_19_code 34 = .ok (.iinc 3 1, 3) := by decide +kernel
theorem d_prog_14_method_19_37 : decode prog_14_method_19_code 37 = .ok (.goto (-33), 3) := by decide +kernel
theorem d_prog_14_method_19_40 : decode prog_14_method_19_code 40 = .ok (.iload_n 2, 1) := by decide +kernel
theorem d_prog_14_method_19_41 : decode prog_14_method_19_code 41 = .ok (.ireturn, 1) := by decide +kernel
theorem pn_1 : plainName "com/example/pedestrain/pedestrain/core/GridMoveOfPinLaw" = true := by first | (simp [plainName, overriddenIn]; done) | decide +kernel
theorem pd_2 : parseMethodDescriptor "(II)I" = some ⟨[.int, .int], some .int⟩ := by decide +kernel
def own_mv (cs rs : Int32) : Int32 := if cs = 1 then (if rs = 0 then 0 else if rs = 1 then 4 else if rs = -1 then 7 else -1) else if cs = 0 then (if rs = 1 then 1 else if rs = -1 then 3 else -1) else if cs = -1 then (if rs = 0 then 2 else if rs = 1 then 5 else if rs = -1 then 6 else -1) else -1
def own_cs : List Value := [Value.int (1), Value.int (0), Value.int (-1), Value.int (0), Value.int (1), Value.int (-1), Value.int (-1), Value.int (1)]
def own_rs : List Value := [Value.int (0), Value.int (1), Value.int (0), Value.int (-1), Value.int (1), Value.int (1), Value.int (-1), Value.int (-1)]
theorem own_five (x : Int32) : x < -1 ∨ x = -1 ∨ x = 0 ∨ x = 1 ∨ (¬ x < -1 ∧ 1 < x) := by
  have e1 : (-1 : Int32).toInt = -1 := by decide
  have e2 : (1 : Int32).toInt = 1 := by decide
  have e3 : (0 : Int32).toInt = 0 := by decide
  simp only [Int32.lt_iff_toInt_lt, ← Int32.toInt_inj, e1, e2, e3]
  omega
theorem own_out {x : Int32} (h : x < -1 ∨ 1 < x) : ¬ x = 1 ∧ ¬ x = 0 ∧ ¬ x = -1 := by
  refine ⟨?_, ?_, ?_⟩ <;> (rintro rfl; revert h; decide)
theorem own_mvc {cs rs : Int32} (h : cs < -1 ∨ 1 < cs) : own_mv cs rs = -1 := by
  obtain ⟨h1, h2, h3⟩ := own_out h
  simp [own_mv, h1, h2, h3]
theorem own_mvr {cs rs : Int32} (h : rs < -1 ∨ 1 < rs) : own_mv cs rs = -1 := by
  obtain ⟨h1, h2, h3⟩ := own_out h
  simp [own_mv, h1, h2, h3]

theorem own_at {args : Array Value} {Z : State} {t : Term} {a : Addr} {cl : Cell} {ty : FieldType} {x : Int32} {j : Int32} {i : Nat} (ht : t.eval args Z none [] Z = some (.ref a)) (A : Arr Z Z.heap a cl ty) (hj : ¬ j < 0) (h : (Jvm.Cond.eq (.elem t (.int j)) (.int x)).value args Z none Z [] = some true) (hi : j.toNatClampNeg = i) : cl.slots[i]? = some (.int x) := by
  have e := eqv_i (Term.int_eval x) h
  subst hi
  exact (elem_in e ht (Term.int_eval j) A.1).2
theorem own_arr {args : Array Value} {Z : State} {t : Term} {a : Addr} {cl : Cell} {z : Int32} {vs : List Value} (hf : Fit Z) (ht : t.eval args Z none [] Z = some (.ref a)) (A : Arr Z Z.heap a cl .int) (h : (Jvm.Cond.eq (.length t) (.int z)).value args Z none Z [] = some true) (hz : ¬ z < 0) (hl : z.toNatClampNeg = vs.length) (H : HasL cl 0 vs) : Arv Z Z.heap a cl.cls .int z vs (.int 0) := by
  have e := eqv_i (Term.int_eval z) h
  have hA := A.fin (Vm.Alike.refl _)
  by_cases hn : cl.slots.size < 2 ^ 31
  · exact Arv.start hf A hn (Value.int.inj (Option.some.inj ((len_f ht hA hn).symm.trans e))) hz hl H
  · exfalso
    simp [Term.eval, ht, hA, hn] at e
set_option maxRecDepth 65536 in
set_option maxHeartbeats 40000000 in
theorem rm_mv {l : Launch} {Z : State} {a0 : Array Value} (hw : ∀ d ∈ tables_1, d.before a0 Z = true) (cs rs : Int32) (aC aR : Addr) (kC kR : ClassId) (h0 : Heap) (O0 : Ext Z.heap h0) (SC : Sta Z Z.heap "com/example/pedestrain/pedestrain/core/Grid" "COLUMN_STEP" "[I" (.ref aC)) (SR : Sta Z Z.heap "com/example/pedestrain/pedestrain/core/Grid" "ROW_STEP" "[I" (.ref aR)) (VC : Arv Z Z.heap aC kC .int (8 : Int32) own_cs (.int 0)) (VR : Arv Z Z.heap aR kR .int (8 : Int32) own_rs (.int 0)) :
    Con l (⟨"com/example/pedestrain/pedestrain/core/Grid", "moveOf", "(II)I"⟩ : MethodName) prog_14_method_19_code 4 (some .int) ({ frames := 0, cells := 0, slots := 0, locals := 0 } : Room) Z #[(.int cs), (.int rs)] h0 (fun v h L => v = some (.int (own_mv cs rs)) ∧ Fr Z.heap.size L ∧ h0 = h) := by
  refine Con.of (plainFor_of_name pn_0) (Ls := #[.val (.int cs), .val (.int rs), .unset, .unset]) (fun m => by first | rfl | (simp [entryFrame, mkF, argsToLocals, Value.category]; done)) ?_
  intro p e s m below meth c T0 X0 hx hZ hby hml hown hnm hret hlk e0
  refine go (fun _ => XT.iconstV X0.here hx rfl (-1 : Int32) (hb hby d_prog_14_method_19_0) (by decide)) ?_
  show Ends p e below s _ _ _ T0 (mkF m 1 #[.val (.int cs), .val (.int rs), .unset, .unset] [(.int (-1 : Int32))])
  refine go (fun _ => XS.istoreN X0.here hx rfl (hb hby d_prog_14_method_19_1) rfl (l' := #[.val (.int cs), .val (.int rs), .val (.int (-1 : Int32)), .unset]) rfl) ?_
  show Ends p e below s _ _ _ T0 (mkF m 2 #[.val (.int cs), .val (.int rs), .val (.int (-1 : Int32)), .unset] [])
  refine go (fun _ => XT.iconstV X0.here hx rfl (0 : Int32) (hb hby d_prog_14_method_19_2) (by decide)) ?_
  show Ends p e below s _ _ _ T0 (mkF m 3 #[.val (.int cs), .val (.int rs), .val (.int (-1 : Int32)), .unset] [(.int (0 : Int32))])
  refine go (fun _ => XS.istoreN X0.here hx rfl (hb hby d_prog_14_method_19_3) rfl (l' := #[.val (.int cs), .val (.int rs), .val (.int (-1 : Int32)), .val (.int (0 : Int32))]) rfl) ?_
  show Ends p e below s _ _ _ T0 (mkF m 4 #[.val (.int cs), .val (.int rs), .val (.int (-1 : Int32)), .val (.int (0 : Int32))] [])
  refine go (fun _ => XS.iloadN X0.here hx rfl (hb hby d_prog_14_method_19_4) rfl) ?_
  show Ends p e below s _ _ _ T0 (mkF m 5 #[.val (.int cs), .val (.int rs), .val (.int (-1 : Int32)), .val (.int (0 : Int32))] [(.int (0 : Int32))])
  refine go (fun _ => XT.bipushV X0.here hx rfl (8 : Int32) (hb hby d_prog_14_method_19_5) (by decide)) ?_
  show Ends p e below s _ _ _ T0 (mkF m 7 #[.val (.int cs), .val (.int rs), .val (.int (-1 : Int32)), .val (.int (0 : Int32))] [(.int (8 : Int32)), (.int (0 : Int32))])
  refine go (fun _ => XS.icmpNo X0.here hx rfl (hb hby d_prog_14_method_19_7) rfl (XT.ii_ge_f ((by decide) : (0 : Int32) < (8 : Int32)))) ?_
  show Ends p e below s _ _ _ T0 (mkF m 10 #[.val (.int cs), .val (.int rs), .val (.int (-1 : Int32)), .val (.int (0 : Int32))] [])
  refine go (fun _ => XS.iloadN X0.here hx rfl (hb hby d_prog_14_method_19_10) rfl) ?_
  show Ends p e below s _ _ _ T0 (mkF m 11 #[.val (.int cs), .val (.int rs), .val (.int (-1 : Int32)), .val (.int (0 : Int32))] [(.int (-1 : Int32))])
  refine go (fun _ => XS.ifNo X0.here hx rfl (hb hby d_prog_14_method_19_11) rfl (XT.i0_ge_f ((by decide) : (-1 : Int32) < (0 : Int32)))) ?_
  show Ends p e below s _ _ _ T0 (mkF m 14 #[.val (.int cs), .val (.int rs), .val (.int (-1 : Int32)), .val (.int (0 : Int32))] [])
  obtain ⟨T1, X1, e1, s1⟩ := getS2 X0 hx hZ hown (host := "") (Or.inl (hw _ (List.mem_of_getElem? (i := 4) rfl))) Via.refl e0 (Sta.ext O0 SC) (g := (mkF m 14 #[.val (.int cs), .val (.int rs), .val (.int (-1 : Int32)), .val (.int (0 : Int32))] [])) rfl (hb hby d_prog_14_method_19_14)
  refine go s1 ?_
  show Ends p e below s _ _ _ T1 (mkF m 17 #[.val (.int cs), .val (.int rs), .val (.int (-1 : Int32)), .val (.int (0 : Int32))] [(.ref aC)])
  refine go (fun _ => XS.iloadN X1.here hx rfl (hb hby d_prog_14_method_19_17) rfl) ?_
  show Ends p e below s _ _ _ T1 (mkF m 18 #[.val (.int cs), .val (.int rs), .val (.int (-1 : Int32)), .val (.int (0 : Int32))] [(.int (0 : Int32)), (.ref aC)])
  have F2 := (Arv.ext VC O0)
  obtain ⟨c3, A3, -, S3, M3, H3, -⟩ := id F2
  have B3 := inb_of S3 (j := (0 : Int32)) (by decide)
  refine go (fun _ => X1.iaload hx (j := (0 : Int32)) (v := (.int (1 : Int32))) (by rw [e1]; exact A3.1) (State.isArrayOf_alike hZ.alike A3.2.1) A3.2.2 B3 (H3.at B3 rfl) (g := (mkF m 18 #[.val (.int cs), .val (.int rs), .val (.int (-1 : Int32)), .val (.int (0 : Int32))] [(.int (0 : Int32)), (.ref aC)])) rfl rfl (hb hby d_prog_14_method_19_18) _) ?_
  show Ends p e below s _ _ _ T1 (mkF m 19 #[.val (.int cs), .val (.int rs), .val (.int (-1 : Int32)), .val (.int (0 : Int32))] [(.int (1 : Int32))])
  refine go (fun _ => XS.iloadN X1.here hx rfl (hb hby d_prog_14_method_19_19) rfl) ?_
  show Ends p e below s _ _ _ T1 (mkF m 20 #[.val (.int cs), .val (.int rs), .val (.int (-1 : Int32)), .val (.int (0 : Int32))] [(.int cs), (.int (1 : Int32))])
  by_cases c20_4 : (1 : Int32) = cs
  · refine go (fun _ => XS.icmpNo X1.here hx rfl (hb hby d_prog_14_method_19_20) rfl (XT.ii_ne_f c20_4)) ?_
    show Ends p e below s _ _ _ T1 (mkF m 23 #[.val (.int cs), .val (.int rs), .val (.int (-1 : Int32)), .val (.int (0 : Int32))] [])
    obtain ⟨T5, X5, e5, s5⟩ := getS2 X1 hx hZ hown (host := "") (Or.inl (hw _ (List.mem_of_getElem? (i := 6) rfl))) Via.refl e1 (Sta.ext O0 SR) (g := (mkF m 23 #[.val (.int cs), .val (.int rs), .val (.int (-1 : Int32)), .val (.int (0 : Int32))] [])) rfl (hb hby d_prog_14_method_19_23)
    refine go s5 ?_
    show Ends p e below s _ _ _ T5 (mkF m 26 #[.val (.int cs), .val (.int rs), .val (.int (-1 : Int32)), .val (.int (0 : Int32))] [(.ref aR)])
    refine go (fun _ => XS.iloadN X5.here hx rfl (hb hby d_prog_14_method_19_26) rfl) ?_
    show Ends p e below s _ _ _ T5 (mkF m 27 #[.val (.int cs), .val (.int rs), .val (.int (-1 : Int32)), .val (.int (0 : Int32))] [(.int (0 : Int32)), (.ref aR)])
    have F6 := (Arv.ext VR O0)
    obtain ⟨c7, A7, -, S7, M7, H7, -⟩ := id F6
    have B7 := inb_of S7 (j := (0 : Int32)) (by decide)
    refine go (fun _ => X5.iaload hx (j := (0 : Int32)) (v := (.int (0 : Int32))) (by rw [e5]; exact A7.1) (State.isArrayOf_alike hZ.alike A7.2.1) A7.2.2 B7 (H7.at B7 rfl) (g := (mkF m 27 #[.val (.int cs), .val (.int rs), .val (.int (-1 : Int32)), .val (.int (0 : Int32))] [(.int (0 : Int32)), (.ref aR)])) rfl rfl (hb hby d_prog_14_method_19_27) _) ?_
    show Ends p e below s _ _ _ T5 (mkF m 28 #[.val (.int cs), .val (.int rs), .val (.int (-1 : Int32)), .val (.int (0 : Int32))] [(.int (0 : Int32))])
    refine go (fun _ => XS.iloadN X5.here hx rfl (hb hby d_prog_14_method_19_28) rfl) ?_
    show Ends p e below s _ _ _ T5 (mkF m 29 #[.val (.int cs), .val (.int rs), .val (.int (-1 : Int32)), .val (.int (0 : Int32))] [(.int rs), (.int (0 : Int32))])
    by_cases c29_8 : (0 : Int32) = rs
    · refine go (fun _ => XS.icmpNo X5.here hx rfl (hb hby d_prog_14_method_19_29) rfl (XT.ii_ne_f c29_8)) ?_
      show Ends p e below s _ _ _ T5 (mkF m 32 #[.val (.int cs), .val (.int rs), .val (.int (-1 : Int32)), .val (.int (0 : Int32))] [])
      refine go (fun _ => XS.iloadN X5.here hx rfl (hb hby d_prog_14_method_19_32) rfl) ?_
      show Ends p e below s _ _ _ T5 (mkF m 33 #[.val (.int cs), .val (.int rs), .val (.int (-1 : Int32)), .val (.int (0 : Int32))] [(.int (0 : Int32))])
      refine go (fun _ => XS.istoreN X5.here hx rfl (hb hby d_prog_14_method_19_33) rfl (l' := #[.val (.int cs), .val (.int rs), .val (.int (0 : Int32)), .val (.int (0 : Int32))]) rfl) ?_
      show Ends p e below s _ _ _ T5 (mkF m 34 #[.val (.int cs), .val (.int rs), .val (.int (0 : Int32)), .val (.int (0 : Int32))] [])
      refine go (fun _ => XT.iincV X5.here hx rfl (1 : Int32) (hb hby d_prog_14_method_19_34) (by decide) rfl (l' := #[.val (.int cs), .val (.int rs), .val (.int (0 : Int32)), .val (.int (1 : Int32))]) rfl) ?_
      show Ends p e below s _ _ _ T5 (mkF m 37 #[.val (.int cs), .val (.int rs), .val (.int (0 : Int32)), .val (.int (1 : Int32))] [])
      refine go (fun _ => XS.goto X5.here hx rfl (pc0 := 37) (pc' := 4) rfl (hb hby d_prog_14_method_19_37) (by decide) (by decide)) ?_
      show Ends p e below s _ _ _ T5 (mkF m 4 #[.val (.int cs), .val (.int rs), .val (.int (0 : Int32)), .val (.int (1 : Int32))] [])
      refine go (fun _ => XS.iloadN X5.here hx rfl (hb hby d_prog_14_method_19_4) rfl) ?_
      show Ends p e below s _ _ _ T5 (mkF m 5 #[.val (.int cs), .val (.int rs), .val (.int (0 : Int32)), .val (.int (1 : Int32))] [(.int (1 : Int32))])
      refine go (fun _ => XT.bipushV X5.here hx rfl (8 : Int32) (hb hby d_prog_14_method_19_5) (by decide)) ?_
      show Ends p e below s _ _ _ T5 (mkF m 7 #[.val (.int cs), .val (.int rs), .val (.int (0 : Int32)), .val (.int (1 : Int32))] [(.int (8 : Int32)), (.int (1 : Int32))])
      refine go (fun _ => XS.icmpNo X5.here hx rfl (hb hby d_prog_14_method_19_7) rfl (XT.ii_ge_f ((by decide) : (1 : Int32) < (8 : Int32)))) ?_
      show Ends p e below s _ _ _ T5 (mkF m 10 #[.val (.int cs), .val (.int rs), .val (.int (0 : Int32)), .val (.int (1 : Int32))] [])
      refine go (fun _ => XS.iloadN X5.here hx rfl (hb hby d_prog_14_method_19_10) rfl) ?_
      show Ends p e below s _ _ _ T5 (mkF m 11 #[.val (.int cs), .val (.int rs), .val (.int (0 : Int32)), .val (.int (1 : Int32))] [(.int (0 : Int32))])
      refine go (fun _ => XS.ifYes X5.here hx rfl (pc0 := 11) (pc' := 40) rfl (hb hby d_prog_14_method_19_11) rfl (XT.i0_ge_t ((by decide) : ¬ ((0 : Int32) < (0 : Int32)))) (by decide) (by decide)) ?_
      show Ends p e below s _ _ _ T5 (mkF m 40 #[.val (.int cs), .val (.int rs), .val (.int (0 : Int32)), .val (.int (1 : Int32))] [])
      refine go (fun _ => XS.iloadN X5.here hx rfl (hb hby d_prog_14_method_19_40) rfl) ?_
      show Ends p e below s _ _ _ T5 (mkF m 41 #[.val (.int cs), .val (.int rs), .val (.int (0 : Int32)), .val (.int (1 : Int32))] [(.int (0 : Int32))])
      exact endI X5 hx hlk hret (hb hby d_prog_14_method_19_41) e5 ⟨by have q0 : cs = (1 : Int32) := (c20_4).symm; have q1 : rs = (0 : Int32) := (c29_8).symm; simp [own_mv, q0, q1], (Fr.nil _), rfl⟩ (by decide) (by decide)
    · refine go (fun _ => XS.icmpYes X5.here hx rfl (pc0 := 29) (pc' := 34) rfl (hb hby d_prog_14_method_19_29) rfl (XT.ii_ne_t c29_8) (by decide) (by decide)) ?_
      show Ends p e below s _ _ _ T5 (mkF m 34 #[.val (.int cs), .val (.int rs), .val (.int (-1 : Int32)), .val (.int (0 : Int32))] [])
      refine go (fun _ => XT.iincV X5.here hx rfl (1 : Int32) (hb hby d_prog_14_method_19_34) (by decide) rfl (l' := #[.val (.int cs), .val (.int rs), .val (.int (-1 : Int32)), .val (.int (1 : Int32))]) rfl) ?_
      show Ends p e below s _ _ _ T5 (mkF m 37 #[.val (.int cs), .val (.int rs), .val (.int (-1 : Int32)), .val (.int (1 : Int32))] [])
      refine go (fun _ => XS.goto X5.here hx rfl (pc0 := 37) (pc' := 4) rfl (hb hby d_prog_14_method_19_37) (by decide) (by decide)) ?_
      show Ends p e below s _ _ _ T5 (mkF m 4 #[.val (.int cs), .val (.int rs), .val (.int (-1 : Int32)), .val (.int (1 : Int32))] [])
      refine go (fun _ => XS.iloadN X5.here hx rfl (hb hby d_prog_14_method_19_4) rfl) ?_
      show Ends p e below s _ _ _ T5 (mkF m 5 #[.val (.int cs), .val (.int rs), .val (.int (-1 : Int32)), .val (.int (1 : Int32))] [(.int (1 : Int32))])
      refine go (fun _ => XT.bipushV X5.here hx rfl (8 : Int32) (hb hby d_prog_14_method_19_5) (by decide)) ?_
      show Ends p e below s _ _ _ T5 (mkF m 7 #[.val (.int cs), .val (.int rs), .val (.int (-1 : Int32)), .val (.int (1 : Int32))] [(.int (8 : Int32)), (.int (1 : Int32))])
      refine go (fun _ => XS.icmpNo X5.here hx rfl (hb hby d_prog_14_method_19_7) rfl (XT.ii_ge_f ((by decide) : (1 : Int32) < (8 : Int32)))) ?_
      show Ends p e below s _ _ _ T5 (mkF m 10 #[.val (.int cs), .val (.int rs), .val (.int (-1 : Int32)), .val (.int (1 : Int32))] [])
      refine go (fun _ => XS.iloadN X5.here hx rfl (hb hby d_prog_14_method_19_10) rfl) ?_
      show Ends p e below s _ _ _ T5 (mkF m 11 #[.val (.int cs), .val (.int rs), .val (.int (-1 : Int32)), .val (.int (1 : Int32))] [(.int (-1 : Int32))])
      refine go (fun _ => XS.ifNo X5.here hx rfl (hb hby d_prog_14_method_19_11) rfl (XT.i0_ge_f ((by decide) : (-1 : Int32) < (0 : Int32)))) ?_
      show Ends p e below s _ _ _ T5 (mkF m 14 #[.val (.int cs), .val (.int rs), .val (.int (-1 : Int32)), .val (.int (1 : Int32))] [])
      obtain ⟨T9, X9, e9, s9⟩ := getS2 X5 hx hZ hown (host := "") (Or.inl (hw _ (List.mem_of_getElem? (i := 4) rfl))) Via.refl e5 (Sta.ext O0 SC) (g := (mkF m 14 #[.val (.int cs), .val (.int rs), .val (.int (-1 : Int32)), .val (.int (1 : Int32))] [])) rfl (hb hby d_prog_14_method_19_14)
      refine go s9 ?_
      show Ends p e below s _ _ _ T9 (mkF m 17 #[.val (.int cs), .val (.int rs), .val (.int (-1 : Int32)), .val (.int (1 : Int32))] [(.ref aC)])
      refine go (fun _ => XS.iloadN X9.here hx rfl (hb hby d_prog_14_method_19_17) rfl) ?_
      show Ends p e below s _ _ _ T9 (mkF m 18 #[.val (.int cs), .val (.int rs), .val (.int (-1 : Int32)), .val (.int (1 : Int32))] [(.int (1 : Int32)), (.ref aC)])
      obtain ⟨c10, A10, -, S10, M10, H10, -⟩ := id F2
      have B10 := inb_of S10 (j := (1 : Int32)) (by decide)
      refine go (fun _ => X9.iaload hx (j := (1 : Int32)) (v := (.int (0 : Int32))) (by rw [e9]; exact A10.1) (State.isArrayOf_alike hZ.alike A10.2.1) A10.2.2 B10 (H10.at B10 rfl) (g := (mkF m 18 #[.val (.int cs), .val (.int rs), .val (.int (-1 : Int32)), .val (.int (1 : Int32))] [(.int (1 : Int32)), (.ref aC)])) rfl rfl (hb hby d_prog_14_method_19_18) _) ?_
      show Ends p e below s _ _ _ T9 (mkF m 19 #[.val (.int cs), .val (.int rs), .val (.int (-1 : Int32)), .val (.int (1 : Int32))] [(.int (0 : Int32))])
      refine go (fun _ => XS.iloadN X9.here hx rfl (hb hby d_prog_14_method_19_19) rfl) ?_
      show Ends p e below s _ _ _ T9 (mkF m 20 #[.val (.int cs), .val (.int rs), .val (.int (-1 : Int32)), .val (.int (1 : Int32))] [(.int cs), (.int (0 : Int32))])
      refine go (fun _ => XS.icmpYes X9.here hx rfl (pc0 := 20) (pc' := 34) rfl (hb hby d_prog_14_method_19_20) rfl (XT.ii_ne_t ((by rw [← c20_4]; decide) : ¬ ((0 : Int32) = cs))) (by decide) (by decide)) ?_
      show Ends p e below s _ _ _ T9 (mkF m 34 #[.val (.int cs), .val (.int rs), .val (.int (-1 : Int32)), .val (.int (1 : Int32))] [])
      refine go (fun _ => XT.iincV X9.here hx rfl (1 : Int32) (hb hby d_prog_14_method_19_34) (by decide) rfl (l' := #[.val (.int cs), .val (.int rs), .val (.int (-1 : Int32)), .val (.int (2 : Int32))]) rfl) ?_
      show Ends p e below s _ _ _ T9 (mkF m 37 #[.val (.int cs), .val (.int rs), .val (.int (-1 : Int32)), .val (.int (2 : Int32))] [])
      refine go (fun _ => XS.goto X9.here hx rfl (pc0 := 37) (pc' := 4) rfl (hb hby d_prog_14_method_19_37) (by decide) (by decide)) ?_
      show Ends p e below s _ _ _ T9 (mkF m 4 #[.val (.int cs), .val (.int rs), .val (.int (-1 : Int32)), .val (.int (2 : Int32))] [])
      refine go (fun _ => XS.iloadN X9.here hx rfl (hb hby d_prog_14_method_19_4) rfl) ?_
      show Ends p e below s _ _ _ T9 (mkF m 5 #[.val (.int cs), .val (.int rs), .val (.int (-1 : Int32)), .val (.int (2 : Int32))] [(.int (2 : Int32))])
      refine go (fun _ => XT.bipushV X9.here hx rfl (8 : Int32) (hb hby d_prog_14_method_19_5) (by decide)) ?_
      show Ends p e below s _ _ _ T9 (mkF m 7 #[.val (.int cs), .val (.int rs), .val (.int (-1 : Int32)), .val (.int (2 : Int32))] [(.int (8 : Int32)), (.int (2 : Int32))])
      refine go (fun _ => XS.icmpNo X9.here hx rfl (hb hby d_prog_14_method_19_7) rfl (XT.ii_ge_f ((by decide) : (2 : Int32) < (8 : Int32)))) ?_
      show Ends p e below s _ _ _ T9 (mkF m 10 #[.val (.int cs), .val (.int rs), .val (.int (-1 : Int32)), .val (.int (2 : Int32))] [])
      refine go (fun _ => XS.iloadN X9.here hx rfl (hb hby d_prog_14_method_19_10) rfl) ?_
      show Ends p e below s _ _ _ T9 (mkF m 11 #[.val (.int cs), .val (.int rs), .val (.int (-1 : Int32)), .val (.int (2 : Int32))] [(.int (-1 : Int32))])
      refine go (fun _ => XS.ifNo X9.here hx rfl (hb hby d_prog_14_method_19_11) rfl (XT.i0_ge_f ((by decide) : (-1 : Int32) < (0 : Int32)))) ?_
      show Ends p e below s _ _ _ T9 (mkF m 14 #[.val (.int cs), .val (.int rs), .val (.int (-1 : Int32)), .val (.int (2 : Int32))] [])
      obtain ⟨T11, X11, e11, s11⟩ := getS2 X9 hx hZ hown (host := "") (Or.inl (hw _ (List.mem_of_getElem? (i := 4) rfl))) Via.refl e9 (Sta.ext O0 SC) (g := (mkF m 14 #[.val (.int cs), .val (.int rs), .val (.int (-1 : Int32)), .val (.int (2 : Int32))] [])) rfl (hb hby d_prog_14_method_19_14)
      refine go s11 ?_
      show Ends p e below s _ _ _ T11 (mkF m 17 #[.val (.int cs), .val (.int rs), .val (.int (-1 : Int32)), .val (.int (2 : Int32))] [(.ref aC)])
      refine go (fun _ => XS.iloadN X11.here hx rfl (hb hby d_prog_14_method_19_17) rfl) ?_
      show Ends p e below s _ _ _ T11 (mkF m 18 #[.val (.int cs), .val (.int rs), .val (.int (-1 : Int32)), .val (.int (2 : Int32))] [(.int (2 : Int32)), (.ref aC)])
      obtain ⟨c12, A12, -, S12, M12, H12, -⟩ := id F2
      have B12 := inb_of S12 (j := (2 : Int32)) (by decide)
      refine go (fun _ => X11.iaload hx (j := (2 : Int32)) (v := (.int (-1 : Int32))) (by rw [e11]; exact A12.1) (State.isArrayOf_alike hZ.alike A12.2.1) A12.2.2 B12 (H12.at B12 rfl) (g := (mkF m 18 #[.val (.int cs), .val (.int rs), .val (.int (-1 : Int32)), .val (.int (2 : Int32))] [(.int (2 : Int32)), (.ref aC)])) rfl rfl (hb hby d_prog_14_method_19_18) _) ?_
      show Ends p e below s _ _ _ T11 (mkF m 19 #[.val (.int cs), .val (.int rs), .val (.int (-1 : Int32)), .val (.int (2 : Int32))] [(.int (-1 : Int32))])
      refine go (fun _ => XS.iloadN X11.here hx rfl (hb hby d_prog_14_method_19_19) rfl) ?_
      show Ends p e below s _ _ _ T11 (mkF m 20 #[.val (.int cs), .val (.int rs), .val (.int (-1 : Int32)), .val (.int (2 : Int32))] [(.int cs), (.int (-1 : Int32))])
      refine go (fun _ => XS.icmpYes X11.here hx rfl (pc0 := 20) (pc' := 34) rfl (hb hby d_prog_14_method_19_20) rfl (XT.ii_ne_t ((by rw [← c20_4]; decide) : ¬ ((-1 : Int32) = cs))) (by decide) (by decide)) ?_
      show Ends p e below s _ _ _ T11 (mkF m 34 #[.val (.int cs), .val (.int rs), .val (.int (-1 : Int32)), .val (.int (2 : Int32))] [])
      refine go (fun _ => XT.iincV X11.here hx rfl (1 : Int32) (hb hby d_prog_14_method_19_34) (by decide) rfl (l' := #[.val (.int cs), .val (.int rs), .val (.int (-1 : Int32)), .val (.int (3 : Int32))]) rfl) ?_
      show Ends p e below s _ _ _ T11 (mkF m 37 #[.val (.int cs), .val (.int rs), .val (.int (-1 : Int32)), .val (.int (3 : Int32))] [])
      refine go (fun _ => XS.goto X11.here hx rfl (pc0 := 37) (pc' := 4) rfl (hb hby d_prog_14_method_19_37) (by decide) (by decide)) ?_
      show Ends p e below s _ _ _ T11 (mkF m 4 #[.val (.int cs), .val (.int rs), .val (.int (-1 : Int32)), .val (.int (3 : Int32))] [])
      refine go (fun _ => XS.iloadN X11.here hx rfl (hb hby d_prog_14_method_19_4) rfl) ?_
      show Ends p e below s _ _ _ T11 (mkF m 5 #[.val (.int cs), .val (.int rs), .val (.int (-1 : Int32)), .val (.int (3 : Int32))] [(.int (3 : Int32))])
      refine go (fun _ => XT.bipushV X11.here hx rfl (8 : Int32) (hb hby d_prog_14_method_19_5) (by decide)) ?_
      show Ends p e below s _ _ _ T11 (mkF m 7 #[.val (.int cs), .val (.int rs), .val (.int (-1 : Int32)), .val (.int (3 : Int32))] [(.int (8 : Int32)), (.int (3 : Int32))])
      refine go (fun _ => XS.icmpNo X11.here hx rfl (hb hby d_prog_14_method_19_7) rfl (XT.ii_ge_f ((by decide) : (3 : Int32) < (8 : Int32)))) ?_
      show Ends p e below s _ _ _ T11 (mkF m 10 #[.val (.int cs), .val (.int rs), .val (.int (-1 : Int32)), .val (.int (3 : Int32))] [])
      refine go (fun _ => XS.iloadN X11.here hx rfl (hb hby d_prog_14_method_19_10) rfl) ?_
      show Ends p e below s _ _ _ T11 (mkF m 11 #[.val (.int cs), .val (.int rs), .val (.int (-1 : Int32)), .val (.int (3 : Int32))] [(.int (-1 : Int32))])
      refine go (fun _ => XS.ifNo X11.here hx rfl (hb hby d_prog_14_method_19_11) rfl (XT.i0_ge_f ((by decide) : (-1 : Int32) < (0 : Int32)))) ?_
      show Ends p e below s _ _ _ T11 (mkF m 14 #[.val (.int cs), .val (.int rs), .val (.int (-1 : Int32)), .val (.int (3 : Int32))] [])
      obtain ⟨T13, X13, e13, s13⟩ := getS2 X11 hx hZ hown (host := "") (Or.inl (hw _ (List.mem_of_getElem? (i := 4) rfl))) Via.refl e11 (Sta.ext O0 SC) (g := (mkF m 14 #[.val (.int cs), .val (.int rs), .val (.int (-1 : Int32)), .val (.int (3 : Int32))] [])) rfl (hb hby d_prog_14_method_19_14)
      refine go s13 ?_
      show Ends p e below s _ _ _ T13 (mkF m 17 #[.val (.int cs), .val (.int rs), .val (.int (-1 : Int32)), .val (.int (3 : Int32))] [(.ref aC)])
      refine go (fun _ => XS.iloadN X13.here hx rfl (hb hby d_prog_14_method_19_17) rfl) ?_
      show Ends p e below s _ _ _ T13 (mkF m 18 #[.val (.int cs), .val (.int rs), .val (.int (-1 : Int32)), .val (.int (3 : Int32))] [(.int (3 : Int32)), (.ref aC)])
      obtain ⟨c14, A14, -, S14, M14, H14, -⟩ := id F2
      have B14 := inb_of S14 (j := (3 : Int32)) (by decide)
      refine go (fun _ => X13.iaload hx (j := (3 : Int32)) (v := (.int (0 : Int32))) (by rw [e13]; exact A14.1) (State.isArrayOf_alike hZ.alike A14.2.1) A14.2.2 B14 (H14.at B14 rfl) (g := (mkF m 18 #[.val (.int cs), .val (.int rs), .val (.int (-1 : Int32)), .val (.int (3 : Int32))] [(.int (3 : Int32)), (.ref aC)])) rfl rfl (hb hby d_prog_14_method_19_18) _) ?_
      show Ends p e below s _ _ _ T13 (mkF m 19 #[.val (.int cs), .val (.int rs), .val (.int (-1 : Int32)), .val (.int (3 : Int32))] [(.int (0 : Int32))])
      refine go (fun _ => XS.iloadN X13.here hx rfl (hb hby d_prog_14_method_19_19) rfl) ?_
      show Ends p e below s _ _ _ T13 (mkF m 20 #[.val (.int cs), .val (.int rs), .val (.int (-1 : Int32)), .val (.int (3 : Int32))] [(.int cs), (.int (0 : Int32))])
      refine go (fun _ => XS.icmpYes X13.here hx rfl (pc0 := 20) (pc' := 34) rfl (hb hby d_prog_14_method_19_20) rfl (XT.ii_ne_t ((by rw [← c20_4]; decide) : ¬ ((0 : Int32) = cs))) (by decide) (by decide)) ?_
      show Ends p e below s _ _ _ T13 (mkF m 34 #[.val (.int cs), .val (.int rs), .val (.int (-1 : Int32)), .val (.int (3 : Int32))] [])
      refine go (fun _ => XT.iincV X13.here hx rfl (1 : Int32) (hb hby d_prog_14_method_19_34) (by decide) rfl (l' := #[.val (.int cs), .val (.int rs), .val (.int (-1 : Int32)), .val (.int (4 : Int32))]) rfl) ?_
      show Ends p e below s _ _ _ T13 (mkF m 37 #[.val (.int cs), .val (.int rs), .val (.int (-1 : Int32)), .val (.int (4 : Int32))] [])
      refine go (fun _ => XS.goto X13.here hx rfl (pc0 := 37) (pc' := 4) rfl (hb hby d_prog_14_method_19_37) (by decide) (by decide)) ?_
      show Ends p e below s _ _ _ T13 (mkF m 4 #[.val (.int cs), .val (.int rs), .val (.int (-1 : Int32)), .val (.int (4 : Int32))] [])
      refine go (fun _ => XS.iloadN X13.here hx rfl (hb hby d_prog_14_method_19_4) rfl) ?_
      show Ends p e below s _ _ _ T13 (mkF m 5 #[.val (.int cs), .val (.int rs), .val (.int (-1 : Int32)), .val (.int (4 : Int32))] [(.int (4 : Int32))])
      refine go (fun _ => XT.bipushV X13.here hx rfl (8 : Int32) (hb hby d_prog_14_method_19_5) (by decide)) ?_
      show Ends p e below s _ _ _ T13 (mkF m 7 #[.val (.int cs), .val (.int rs), .val (.int (-1 : Int32)), .val (.int (4 : Int32))] [(.int (8 : Int32)), (.int (4 : Int32))])
      refine go (fun _ => XS.icmpNo X13.here hx rfl (hb hby d_prog_14_method_19_7) rfl (XT.ii_ge_f ((by decide) : (4 : Int32) < (8 : Int32)))) ?_
      show Ends p e below s _ _ _ T13 (mkF m 10 #[.val (.int cs), .val (.int rs), .val (.int (-1 : Int32)), .val (.int (4 : Int32))] [])
      refine go (fun _ => XS.iloadN X13.here hx rfl (hb hby d_prog_14_method_19_10) rfl) ?_
      show Ends p e below s _ _ _ T13 (mkF m 11 #[.val (.int cs), .val (.int rs), .val (.int (-1 : Int32)), .val (.int (4 : Int32))] [(.int (-1 : Int32))])
      refine go (fun _ => XS.ifNo X13.here hx rfl (hb hby d_prog_14_method_19_11) rfl (XT.i0_ge_f ((by decide) : (-1 : Int32) < (0 : Int32)))) ?_
      show Ends p e below s _ _ _ T13 (mkF m 14 #[.val (.int cs), .val (.int rs), .val (.int (-1 : Int32)), .val (.int (4 : Int32))] [])
      obtain ⟨T15, X15, e15, s15⟩ := getS2 X13 hx hZ hown (host := "") (Or.inl (hw _ (List.mem_of_getElem? (i := 4) rfl))) Via.refl e13 (Sta.ext O0 SC) (g := (mkF m 14 #[.val (.int cs), .val (.int rs), .val (.int (-1 : Int32)), .val (.int (4 : Int32))] [])) rfl (hb hby d_prog_14_method_19_14)
      refine go s15 ?_
      show Ends p e below s _ _ _ T15 (mkF m 17 #[.val (.int cs), .val (.int rs), .val (.int (-1 : Int32)), .val (.int (4 : Int32))] [(.ref aC)])
      refine go (fun _ => XS.iloadN X15.here hx rfl (hb hby d_prog_14_method_19_17) rfl) ?_
      show Ends p e below s _ _ _ T15 (mkF m 18 #[.val (.int cs), .val (.int rs), .val (.int (-1 : Int32)), .val (.int (4 : Int32))] [(.int (4 : Int32)), (.ref aC)])
      obtain ⟨c16, A16, -, S16, M16, H16, -⟩ := id F2
      have B16 := inb_of S16 (j := (4 : Int32)) (by decide)
      refine go (fun _ => X15.iaload hx (j := (4 : Int32)) (v := (.int (1 : Int32))) (by rw [e15]; exact A16.1) (State.isArrayOf_alike hZ.alike A16.2.1) A16.2.2 B16 (H16.at B16 rfl) (g := (mkF m 18 #[.val (.int cs), .val (.int rs), .val (.int (-1 : Int32)), .val (.int (4 : Int32))] [(.int (4 : Int32)), (.ref aC)])) rfl rfl (hb hby d_prog_14_method_19_18) _) ?_
      show Ends p e below s _ _ _ T15 (mkF m 19 #[.val (.int cs), .val (.int rs), .val (.int (-1 : Int32)), .val (.int (4 : Int32))] [(.int (1 : Int32))])
      refine go (fun _ => XS.iloadN X15.here hx rfl (hb hby d_prog_14_method_19_19) rfl) ?_
      show Ends p e below s _ _ _ T15 (mkF m 20 #[.val (.int cs), .val (.int rs), .val (.int (-1 : Int32)), .val (.int (4 : Int32))] [(.int cs), (.int (1 : Int32))])
      refine go (fun _ => XS.icmpNo X15.here hx rfl (hb hby d_prog_14_method_19_20) rfl (XT.ii_ne_f c20_4)) ?_
      show Ends p e below s _ _ _ T15 (mkF m 23 #[.val (.int cs), .val (.int rs), .val (.int (-1 : Int32)), .val (.int (4 : Int32))] [])
      obtain ⟨T17, X17, e17, s17⟩ := getS2 X15 hx hZ hown (host := "") (Or.inl (hw _ (List.mem_of_getElem? (i := 6) rfl))) Via.refl e15 (Sta.ext O0 SR) (g := (mkF m 23 #[.val (.int cs), .val (.int rs), .val (.int (-1 : Int32)), .val (.int (4 : Int32))] [])) rfl (hb hby d_prog_14_method_19_23)
      refine go s17 ?_
      show Ends p e below s _ _ _ T17 (mkF m 26 #[.val (.int cs), .val (.int rs), .val (.int (-1 : Int32)), .val (.int (4 : Int32))] [(.ref aR)])
      refine go (fun _ => XS.iloadN X17.here hx rfl (hb hby d_prog_14_method_19_26) rfl) ?_
      show Ends p e below s _ _ _ T17 (mkF m 27 #[.val (.int cs), .val (.int rs), .val (.int (-1 : Int32)), .val (.int (4 : Int32))] [(.int (4 : Int32)), (.ref aR)])
      obtain ⟨c18, A18, -, S18, M18, H18, -⟩ := id F6
      have B18 := inb_of S18 (j := (4 : Int32)) (by decide)
      refine go (fun _ => X17.iaload hx (j := (4 : Int32)) (v := (.int (1 : Int32))) (by rw [e17]; exact A18.1) (State.isArrayOf_alike hZ.alike A18.2.1) A18.2.2 B18 (H18.at B18 rfl) (g := (mkF m 27 #[.val (.int cs), .val (.int rs), .val (.int (-1 : Int32)), .val (.int (4 : Int32))] [(.int (4 : Int32)), (.ref aR)])) rfl rfl (hb hby d_prog_14_method_19_27) _) ?_
      show Ends p e below s _ _ _ T17 (mkF m 28 #[.val (.int cs), .val (.int rs), .val (.int (-1 : Int32)), .val (.int (4 : Int32))] [(.int (1 : Int32))])
      refine go (fun _ => XS.iloadN X17.here hx rfl (hb hby d_prog_14_method_19_28) rfl) ?_
      show Ends p e below s _ _ _ T17 (mkF m 29 #[.val (.int cs), .val (.int rs), .val (.int (-1 : Int32)), .val (.int (4 : Int32))] [(.int rs), (.int (1 : Int32))])
      by_cases c29_19 : (1 : Int32) = rs
      · refine go (fun _ => XS.icmpNo X17.here hx rfl (hb hby d_prog_14_method_19_29) rfl (XT.ii_ne_f c29_19)) ?_
        show Ends p e below s _ _ _ T17 (mkF m 32 #[.val (.int cs), .val (.int rs), .val (.int (-1 : Int32)), .val (.int (4 : Int32))] [])
        refine go (fun _ => XS.iloadN X17.here hx rfl (hb hby d_prog_14_method_19_32) rfl) ?_
        show Ends p e below s _ _ _ T17 (mkF m 33 #[.val (.int cs), .val (.int rs), .val (.int (-1 : Int32)), .val (.int (4 : Int32))] [(.int (4 : Int32))])
        refine go (fun _ => XS.istoreN X17.here hx rfl (hb hby d_prog_14_method_19_33) rfl (l' := #[.val (.int cs), .val (.int rs), .val (.int (4 : Int32)), .val (.int (4 : Int32))]) rfl) ?_
        show Ends p e below s _ _ _ T17 (mkF m 34 #[.val (.int cs), .val (.int rs), .val (.int (4 : Int32)), .val (.int (4 : Int32))] [])
        refine go (fun _ => XT.iincV X17.here hx rfl (1 : Int32) (hb hby d_prog_14_method_19_34) (by decide) rfl (l' := #[.val (.int cs), .val (.int rs), .val (.int (4 : Int32)), .val (.int (5 : Int32))]) rfl) ?_
        show Ends p e below s _ _ _ T17 (mkF m 37 #[.val (.int cs), .val (.int rs), .val (.int (4 : Int32)), .val (.int (5 : Int32))] [])
        refine go (fun _ => XS.goto X17.here hx rfl (pc0 := 37) (pc' := 4) rfl (hb hby d_prog_14_method_19_37) (by decide) (by decide)) ?_
        show Ends p e below s _ _ _ T17 (mkF m 4 #[.val (.int cs), .val (.int rs), .val (.int (4 : Int32)), .val (.int (5 : Int32))] [])
        refine go (fun _ => XS.iloadN X17.here hx rfl (hb hby d_prog_14_method_19_4) rfl) ?_
        show Ends p e below s _ _ _ T17 (mkF m 5 #[.val (.int cs), .val (.int rs), .val (.int (4 : Int32)), .val (.int (5 : Int32))] [(.int (5 : Int32))])
        refine go (fun _ => XT.bipushV X17.here hx rfl (8 : Int32) (hb hby d_prog_14_method_19_5) (by decide)) ?_
        show Ends p e below s _ _ _ T17 (mkF m 7 #[.val (.int cs), .val (.int rs), .val (.int (4 : Int32)), .val (.int (5 : Int32))] [(.int (8 : Int32)), (.int (5 : Int32))])
        refine go (fun _ => XS.icmpNo X17.here hx rfl (hb hby d_prog_14_method_19_7) rfl (XT.ii_ge_f ((by decide) : (5 : Int32) < (8 : Int32)))) ?_
        show Ends p e below s _ _ _ T17 (mkF m 10 #[.val (.int cs), .val (.int rs), .val (.int (4 : Int32)), .val (.int (5 : Int32))] [])
        refine go (fun _ => XS.iloadN X17.here hx rfl (hb hby d_prog_14_method_19_10) rfl) ?_
        show Ends p e below s _ _ _ T17 (mkF m 11 #[.val (.int cs), .val (.int rs), .val (.int (4 : Int32)), .val (.int (5 : Int32))] [(.int (4 : Int32))])
        refine go (fun _ => XS.ifYes X17.here hx rfl (pc0 := 11) (pc' := 40) rfl (hb hby d_prog_14_method_19_11) rfl (XT.i0_ge_t ((by decide) : ¬ ((4 : Int32) < (0 : Int32)))) (by decide) (by decide)) ?_
        show Ends p e below s _ _ _ T17 (mkF m 40 #[.val (.int cs), .val (.int rs), .val (.int (4 : Int32)), .val (.int (5 : Int32))] [])
        refine go (fun _ => XS.iloadN X17.here hx rfl (hb hby d_prog_14_method_19_40) rfl) ?_
        show Ends p e below s _ _ _ T17 (mkF m 41 #[.val (.int cs), .val (.int rs), .val (.int (4 : Int32)), .val (.int (5 : Int32))] [(.int (4 : Int32))])
        exact endI X17 hx hlk hret (hb hby d_prog_14_method_19_41) e17 ⟨by have q0 : cs = (1 : Int32) := (c20_4).symm; have q1 : ¬ rs = (0 : Int32) := fun z => c29_8 z.symm; have q2 : rs = (1 : Int32) := (c29_19).symm; simp [own_mv, q0, q1, q2], (Fr.nil _), rfl⟩ (by decide) (by decide)
      · refine go (fun _ => XS.icmpYes X17.here hx rfl (pc0 := 29) (pc' := 34) rfl (hb hby d_prog_14_method_19_29) rfl (XT.ii_ne_t c29_19) (by decide) (by decide)) ?_
        show Ends p e below s _ _ _ T17 (mkF m 34 #[.val (.int cs), .val (.int rs), .val (.int (-1 : Int32)), .val (.int (4 : Int32))] [])
        refine go (fun _ => XT.iincV X17.here hx rfl (1 : Int32) (hb hby d_prog_14_method_19_34) (by decide) rfl (l' := #[.val (.int cs), .val (.int rs), .val (.int (-1 : Int32)), .val (.int (5 : Int32))]) rfl) ?_
        show Ends p e below s _ _ _ T17 (mkF m 37 #[.val (.int cs), .val (.int rs), .val (.int (-1 : Int32)), .val (.int (5 : Int32))] [])
        refine go (fun _ => XS.goto X17.here hx rfl (pc0 := 37) (pc' := 4) rfl (hb hby d_prog_14_method_19_37) (by decide) (by decide)) ?_
        show Ends p e below s _ _ _ T17 (mkF m 4 #[.val (.int cs), .val (.int rs), .val (.int (-1 : Int32)), .val (.int (5 : Int32))] [])
        refine go (fun _ => XS.iloadN X17.here hx rfl (hb hby d_prog_14_method_19_4) rfl) ?_
        show Ends p e below s _ _ _ T17 (mkF m 5 #[.val (.int cs), .val (.int rs), .val (.int (-1 : Int32)), .val (.int (5 : Int32))] [(.int (5 : Int32))])
        refine go (fun _ => XT.bipushV X17.here hx rfl (8 : Int32) (hb hby d_prog_14_method_19_5) (by decide)) ?_
        show Ends p e below s _ _ _ T17 (mkF m 7 #[.val (.int cs), .val (.int rs), .val (.int (-1 : Int32)), .val (.int (5 : Int32))] [(.int (8 : Int32)), (.int (5 : Int32))])
        refine go (fun _ => XS.icmpNo X17.here hx rfl (hb hby d_prog_14_method_19_7) rfl (XT.ii_ge_f ((by decide) : (5 : Int32) < (8 : Int32)))) ?_
        show Ends p e below s _ _ _ T17 (mkF m 10 #[.val (.int cs), .val (.int rs), .val (.int (-1 : Int32)), .val (.int (5 : Int32))] [])
        refine go (fun _ => XS.iloadN X17.here hx rfl (hb hby d_prog_14_method_19_10) rfl) ?_
        show Ends p e below s _ _ _ T17 (mkF m 11 #[.val (.int cs), .val (.int rs), .val (.int (-1 : Int32)), .val (.int (5 : Int32))] [(.int (-1 : Int32))])
        refine go (fun _ => XS.ifNo X17.here hx rfl (hb hby d_prog_14_method_19_11) rfl (XT.i0_ge_f ((by decide) : (-1 : Int32) < (0 : Int32)))) ?_
        show Ends p e below s _ _ _ T17 (mkF m 14 #[.val (.int cs), .val (.int rs), .val (.int (-1 : Int32)), .val (.int (5 : Int32))] [])
        obtain ⟨T20, X20, e20, s20⟩ := getS2 X17 hx hZ hown (host := "") (Or.inl (hw _ (List.mem_of_getElem? (i := 4) rfl))) Via.refl e17 (Sta.ext O0 SC) (g := (mkF m 14 #[.val (.int cs), .val (.int rs), .val (.int (-1 : Int32)), .val (.int (5 : Int32))] [])) rfl (hb hby d_prog_14_method_19_14)
        refine go s20 ?_
        show Ends p e below s _ _ _ T20 (mkF m 17 #[.val (.int cs), .val (.int rs), .val (.int (-1 : Int32)), .val (.int (5 : Int32))] [(.ref aC)])
        refine go (fun _ => XS.iloadN X20.here hx rfl (hb hby d_prog_14_method_19_17) rfl) ?_
        show Ends p e below s _ _ _ T20 (mkF m 18 #[.val (.int cs), .val (.int rs), .val (.int (-1 : Int32)), .val (.int (5 : Int32))] [(.int (5 : Int32)), (.ref aC)])
        obtain ⟨c21, A21, -, S21, M21, H21, -⟩ := id F2
        have B21 := inb_of S21 (j := (5 : Int32)) (by decide)
        refine go (fun _ => X20.iaload hx (j := (5 : Int32)) (v := (.int (-1 : Int32))) (by rw [e20]; exact A21.1) (State.isArrayOf_alike hZ.alike A21.2.1) A21.2.2 B21 (H21.at B21 rfl) (g := (mkF m 18 #[.val (.int cs), .val (.int rs), .val (.int (-1 : Int32)), .val (.int (5 : Int32))] [(.int (5 : Int32)), (.ref aC)])) rfl rfl (hb hby d_prog_14_method_19_18) _) ?_
        show Ends p e below s _ _ _ T20 (mkF m 19 #[.val (.int cs), .val (.int rs), .val (.int (-1 : Int32)), .val (.int (5 : Int32))] [(.int (-1 : Int32))])
        refine go (fun _ => XS.iloadN X20.here hx rfl (hb hby d_prog_14_method_19_19) rfl) ?_
        show Ends p e below s _ _ _ T20 (mkF m 20 #[.val (.int cs), .val (.int rs), .val (.int (-1 : Int32)), .val (.int (5 : Int32))] [(.int cs), (.int (-1 : Int32))])
        refine go (fun _ => XS.icmpYes X20.here hx rfl (pc0 := 20) (pc' := 34) rfl (hb hby d_prog_14_method_19_20) rfl (XT.ii_ne_t ((by rw [← c20_4]; decide) : ¬ ((-1 : Int32) = cs))) (by decide) (by decide)) ?_
        show Ends p e below s _ _ _ T20 (mkF m 34 #[.val (.int cs), .val (.int rs), .val (.int (-1 : Int32)), .val (.int (5 : Int32))] [])
        refine go (fun _ => XT.iincV X20.here hx rfl (1 : Int32) (hb hby d_prog_14_method_19_34) (by decide) rfl (l' := #[.val (.int cs), .val (.int rs), .val (.int (-1 : Int32)), .val (.int (6 : Int32))]) rfl) ?_
        show Ends p e below s _ _ _ T20 (mkF m 37 #[.val (.int cs), .val (.int rs), .val (.int (-1 : Int32)), .val (.int (6 : Int32))] [])
        refine go (fun _ => XS.goto X20.here hx rfl (pc0 := 37) (pc' := 4) rfl (hb hby d_prog_14_method_19_37) (by decide) (by decide)) ?_
        show Ends p e below s _ _ _ T20 (mkF m 4 #[.val (.int cs), .val (.int rs), .val (.int (-1 : Int32)), .val (.int (6 : Int32))] [])
        refine go (fun _ => XS.iloadN X20.here hx rfl (hb hby d_prog_14_method_19_4) rfl) ?_
        show Ends p e below s _ _ _ T20 (mkF m 5 #[.val (.int cs), .val (.int rs), .val (.int (-1 : Int32)), .val (.int (6 : Int32))] [(.int (6 : Int32))])
        refine go (fun _ => XT.bipushV X20.here hx rfl (8 : Int32) (hb hby d_prog_14_method_19_5) (by decide)) ?_
        show Ends p e below s _ _ _ T20 (mkF m 7 #[.val (.int cs), .val (.int rs), .val (.int (-1 : Int32)), .val (.int (6 : Int32))] [(.int (8 : Int32)), (.int (6 : Int32))])
        refine go (fun _ => XS.icmpNo X20.here hx rfl (hb hby d_prog_14_method_19_7) rfl (XT.ii_ge_f ((by decide) : (6 : Int32) < (8 : Int32)))) ?_
        show Ends p e below s _ _ _ T20 (mkF m 10 #[.val (.int cs), .val (.int rs), .val (.int (-1 : Int32)), .val (.int (6 : Int32))] [])
        refine go (fun _ => XS.iloadN X20.here hx rfl (hb hby d_prog_14_method_19_10) rfl) ?_
        show Ends p e below s _ _ _ T20 (mkF m 11 #[.val (.int cs), .val (.int rs), .val (.int (-1 : Int32)), .val (.int (6 : Int32))] [(.int (-1 : Int32))])
        refine go (fun _ => XS.ifNo X20.here hx rfl (hb hby d_prog_14_method_19_11) rfl (XT.i0_ge_f ((by decide) : (-1 : Int32) < (0 : Int32)))) ?_
        show Ends p e below s _ _ _ T20 (mkF m 14 #[.val (.int cs), .val (.int rs), .val (.int (-1 : Int32)), .val (.int (6 : Int32))] [])
        obtain ⟨T22, X22, e22, s22⟩ := getS2 X20 hx hZ hown (host := "") (Or.inl (hw _ (List.mem_of_getElem? (i := 4) rfl))) Via.refl e20 (Sta.ext O0 SC) (g := (mkF m 14 #[.val (.int cs), .val (.int rs), .val (.int (-1 : Int32)), .val (.int (6 : Int32))] [])) rfl (hb hby d_prog_14_method_19_14)
        refine go s22 ?_
        show Ends p e below s _ _ _ T22 (mkF m 17 #[.val (.int cs), .val (.int rs), .val (.int (-1 : Int32)), .val (.int (6 : Int32))] [(.ref aC)])
        refine go (fun _ => XS.iloadN X22.here hx rfl (hb hby d_prog_14_method_19_17) rfl) ?_
        show Ends p e below s _ _ _ T22 (mkF m 18 #[.val (.int cs), .val (.int rs), .val (.int (-1 : Int32)), .val (.int (6 : Int32))] [(.int (6 : Int32)), (.ref aC)])
        obtain ⟨c23, A23, -, S23, M23, H23, -⟩ := id F2
        have B23 := inb_of S23 (j := (6 : Int32)) (by decide)
        refine go (fun _ => X22.iaload hx (j := (6 : Int32)) (v := (.int (-1 : Int32))) (by rw [e22]; exact A23.1) (State.isArrayOf_alike hZ.alike A23.2.1) A23.2.2 B23 (H23.at B23 rfl) (g := (mkF m 18 #[.val (.int cs), .val (.int rs), .val (.int (-1 : Int32)), .val (.int (6 : Int32))] [(.int (6 : Int32)), (.ref aC)])) rfl rfl (hb hby d_prog_14_method_19_18) _) ?_
        show Ends p e below s _ _ _ T22 (mkF m 19 #[.val (.int cs), .val (.int rs), .val (.int (-1 : Int32)), .val (.int (6 : Int32))] [(.int (-1 : Int32))])
        refine go (fun _ => XS.iloadN X22.here hx rfl (hb hby d_prog_14_method_19_19) rfl) ?_
        show Ends p e below s _ _ _ T22 (mkF m 20 #[.val (.int cs), .val (.int rs), .val (.int (-1 : Int32)), .val (.int (6 : Int32))] [(.int cs), (.int (-1 : Int32))])
        refine go (fun _ => XS.icmpYes X22.here hx rfl (pc0 := 20) (pc' := 34) rfl (hb hby d_prog_14_method_19_20) rfl (XT.ii_ne_t ((by rw [← c20_4]; decide) : ¬ ((-1 : Int32) = cs))) (by decide) (by decide)) ?_
        show Ends p e below s _ _ _ T22 (mkF m 34 #[.val (.int cs), .val (.int rs), .val (.int (-1 : Int32)), .val (.int (6 : Int32))] [])
        refine go (fun _ => XT.iincV X22.here hx rfl (1 : Int32) (hb hby d_prog_14_method_19_34) (by decide) rfl (l' := #[.val (.int cs), .val (.int rs), .val (.int (-1 : Int32)), .val (.int (7 : Int32))]) rfl) ?_
        show Ends p e below s _ _ _ T22 (mkF m 37 #[.val (.int cs), .val (.int rs), .val (.int (-1 : Int32)), .val (.int (7 : Int32))] [])
        refine go (fun _ => XS.goto X22.here hx rfl (pc0 := 37) (pc' := 4) rfl (hb hby d_prog_14_method_19_37) (by decide) (by decide)) ?_
        show Ends p e below s _ _ _ T22 (mkF m 4 #[.val (.int cs), .val (.int rs), .val (.int (-1 : Int32)), .val (.int (7 : Int32))] [])
        refine go (fun _ => XS.iloadN X22.here hx rfl (hb hby d_prog_14_method_19_4) rfl) ?_
        show Ends p e below s _ _ _ T22 (mkF m 5 #[.val (.int cs), .val (.int rs), .val (.int (-1 : Int32)), .val (.int (7 : Int32))] [(.int (7 : Int32))])
        refine go (fun _ => XT.bipushV X22.here hx rfl (8 : Int32) (hb hby d_prog_14_method_19_5) (by decide)) ?_
        show Ends p e below s _ _ _ T22 (mkF m 7 #[.val (.int cs), .val (.int rs), .val (.int (-1 : Int32)), .val (.int (7 : Int32))] [(.int (8 : Int32)), (.int (7 : Int32))])
        refine go (fun _ => XS.icmpNo X22.here hx rfl (hb hby d_prog_14_method_19_7) rfl (XT.ii_ge_f ((by decide) : (7 : Int32) < (8 : Int32)))) ?_
        show Ends p e below s _ _ _ T22 (mkF m 10 #[.val (.int cs), .val (.int rs), .val (.int (-1 : Int32)), .val (.int (7 : Int32))] [])
        refine go (fun _ => XS.iloadN X22.here hx rfl (hb hby d_prog_14_method_19_10) rfl) ?_
        show Ends p e below s _ _ _ T22 (mkF m 11 #[.val (.int cs), .val (.int rs), .val (.int (-1 : Int32)), .val (.int (7 : Int32))] [(.int (-1 : Int32))])
        refine go (fun _ => XS.ifNo X22.here hx rfl (hb hby d_prog_14_method_19_11) rfl (XT.i0_ge_f ((by decide) : (-1 : Int32) < (0 : Int32)))) ?_
        show Ends p e below s _ _ _ T22 (mkF m 14 #[.val (.int cs), .val (.int rs), .val (.int (-1 : Int32)), .val (.int (7 : Int32))] [])
        obtain ⟨T24, X24, e24, s24⟩ := getS2 X22 hx hZ hown (host := "") (Or.inl (hw _ (List.mem_of_getElem? (i := 4) rfl))) Via.refl e22 (Sta.ext O0 SC) (g := (mkF m 14 #[.val (.int cs), .val (.int rs), .val (.int (-1 : Int32)), .val (.int (7 : Int32))] [])) rfl (hb hby d_prog_14_method_19_14)
        refine go s24 ?_
        show Ends p e below s _ _ _ T24 (mkF m 17 #[.val (.int cs), .val (.int rs), .val (.int (-1 : Int32)), .val (.int (7 : Int32))] [(.ref aC)])
        refine go (fun _ => XS.iloadN X24.here hx rfl (hb hby d_prog_14_method_19_17) rfl) ?_
        show Ends p e below s _ _ _ T24 (mkF m 18 #[.val (.int cs), .val (.int rs), .val (.int (-1 : Int32)), .val (.int (7 : Int32))] [(.int (7 : Int32)), (.ref aC)])
        obtain ⟨c25, A25, -, S25, M25, H25, -⟩ := id F2
        have B25 := inb_of S25 (j := (7 : Int32)) (by decide)
        refine go (fun _ => X24.iaload hx (j := (7 : Int32)) (v := (.int (1 : Int32))) (by rw [e24]; exact A25.1) (State.isArrayOf_alike hZ.alike A25.2.1) A25.2.2 B25 (H25.at B25 rfl) (g := (mkF m 18 #[.val (.int cs), .val (.int rs), .val (.int (-1 : Int32)), .val (.int (7 : Int32))] [(.int (7 : Int32)), (.ref aC)])) rfl rfl (hb hby d_prog_14_method_19_18) _) ?_
        show Ends p e below s _ _ _ T24 (mkF m 19 #[.val (.int cs), .val (.int rs), .val (.int (-1 : Int32)), .val (.int (7 : Int32))] [(.int (1 : Int32))])
        refine go (fun _ => XS.iloadN X24.here hx rfl (hb hby d_prog_14_method_19_19) rfl) ?_
        show Ends p e below s _ _ _ T24 (mkF m 20 #[.val (.int cs), .val (.int rs), .val (.int (-1 : Int32)), .val (.int (7 : Int32))] [(.int cs), (.int (1 : Int32))])
        refine go (fun _ => XS.icmpNo X24.here hx rfl (hb hby d_prog_14_method_19_20) rfl (XT.ii_ne_f c20_4)) ?_
        show Ends p e below s _ _ _ T24 (mkF m 23 #[.val (.int cs), .val (.int rs), .val (.int (-1 : Int32)), .val (.int (7 : Int32))] [])
        obtain ⟨T26, X26, e26, s26⟩ := getS2 X24 hx hZ hown (host := "") (Or.inl (hw _ (List.mem_of_getElem? (i := 6) rfl))) Via.refl e24 (Sta.ext O0 SR) (g := (mkF m 23 #[.val (.int cs), .val (.int rs), .val (.int (-1 : Int32)), .val (.int (7 : Int32))] [])) rfl (hb hby d_prog_14_method_19_23)
        refine go s26 ?_
        show Ends p e below s _ _ _ T26 (mkF m 26 #[.val (.int cs), .val (.int rs), .val (.int (-1 : Int32)), .val (.int (7 : Int32))] [(.ref aR)])
        refine go (fun _ => XS.iloadN X26.here hx rfl (hb hby d_prog_14_method_19_26) rfl) ?_
        show Ends p e below s _ _ _ T26 (mkF m 27 #[.val (.int cs), .val (.int rs), .val (.int (-1 : Int32)), .val (.int (7 : Int32))] [(.int (7 : Int32)), (.ref aR)])
        obtain ⟨c27, A27, -, S27, M27, H27, -⟩ := id F6
        have B27 := inb_of S27 (j := (7 : Int32)) (by decide)
        refine go (fun _ => X26.iaload hx (j := (7 : Int32)) (v := (.int (-1 : Int32))) (by rw [e26]; exact A27.1) (State.isArrayOf_alike hZ.alike A27.2.1) A27.2.2 B27 (H27.at B27 rfl) (g := (mkF m 27 #[.val (.int cs), .val (.int rs), .val (.int (-1 : Int32)), .val (.int (7 : Int32))] [(.int (7 : Int32)), (.ref aR)])) rfl rfl (hb hby d_prog_14_method_19_27) _) ?_
        show Ends p e below s _ _ _ T26 (mkF m 28 #[.val (.int cs), .val (.int rs), .val (.int (-1 : Int32)), .val (.int (7 : Int32))] [(.int (-1 : Int32))])
        refine go (fun _ => XS.iloadN X26.here hx rfl (hb hby d_prog_14_method_19_28) rfl) ?_
        show Ends p e below s _ _ _ T26 (mkF m 29 #[.val (.int cs), .val (.int rs), .val (.int (-1 : Int32)), .val (.int (7 : Int32))] [(.int rs), (.int (-1 : Int32))])
        by_cases c29_28 : (-1 : Int32) = rs
        · refine go (fun _ => XS.icmpNo X26.here hx rfl (hb hby d_prog_14_method_19_29) rfl (XT.ii_ne_f c29_28)) ?_
          show Ends p e below s _ _ _ T26 (mkF m 32 #[.val (.int cs), .val (.int rs), .val (.int (-1 : Int32)), .val (.int (7 : Int32))] [])
          refine go (fun _ => XS.iloadN X26.here hx rfl (hb hby d_prog_14_method_19_32) rfl) ?_
          show Ends p e below s _ _ _ T26 (mkF m 33 #[.val (.int cs), .val (.int rs), .val (.int (-1 : Int32)), .val (.int (7 : Int32))] [(.int (7 : Int32))])
          refine go (fun _ => XS.istoreN X26.here hx rfl (hb hby d_prog_14_method_19_33) rfl (l' := #[.val (.int cs), .val (.int rs), .val (.int (7 : Int32)), .val (.int (7 : Int32))]) rfl) ?_
          show Ends p e below s _ _ _ T26 (mkF m 34 #[.val (.int cs), .val (.int rs), .val (.int (7 : Int32)), .val (.int (7 : Int32))] [])
          refine go (fun _ => XT.iincV X26.here hx rfl (1 : Int32) (hb hby d_prog_14_method_19_34) (by decide) rfl (l' := #[.val (.int cs), .val (.int rs), .val (.int (7 : Int32)), .val (.int (8 : Int32))]) rfl) ?_
          show Ends p e below s _ _ _ T26 (mkF m 37 #[.val (.int cs), .val (.int rs), .val (.int (7 : Int32)), .val (.int (8 : Int32))] [])
          refine go (fun _ => XS.goto X26.here hx rfl (pc0 := 37) (pc' := 4) rfl (hb hby d_prog_14_method_19_37) (by decide) (by decide)) ?_
          show Ends p e below s _ _ _ T26 (mkF m 4 #[.val (.int cs), .val (.int rs), .val (.int (7 : Int32)), .val (.int (8 : Int32))] [])
          refine go (fun _ => XS.iloadN X26.here hx rfl (hb hby d_prog_14_method_19_4) rfl) ?_
          show Ends p e below s _ _ _ T26 (mkF m 5 #[.val (.int cs), .val (.int rs), .val (.int (7 : Int32)), .val (.int (8 : Int32))] [(.int (8 : Int32))])
          refine go (fun _ => XT.bipushV X26.here hx rfl (8 : Int32) (hb hby d_prog_14_method_19_5) (by decide)) ?_
          show Ends p e below s _ _ _ T26 (mkF m 7 #[.val (.int cs), .val (.int rs), .val (.int (7 : Int32)), .val (.int (8 : Int32))] [(.int (8 : Int32)), (.int (8 : Int32))])
          refine go (fun _ => XS.icmpYes X26.here hx rfl (pc0 := 7) (pc' := 40) rfl (hb hby d_prog_14_method_19_7) rfl (XT.ii_ge_t ((by decide) : ¬ ((8 : Int32) < (8 : Int32)))) (by decide) (by decide)) ?_
          show Ends p e below s _ _ _ T26 (mkF m 40 #[.val (.int cs), .val (.int rs), .val (.int (7 : Int32)), .val (.int (8 : Int32))] [])
          refine go (fun _ => XS.iloadN X26.here hx rfl (hb hby d_prog_14_method_19_40) rfl) ?_
          show Ends p e below s _ _ _ T26 (mkF m 41 #[.val (.int cs), .val (.int rs), .val (.int (7 : Int32)), .val (.int (8 : Int32))] [(.int (7 : Int32))])
          exact endI X26 hx hlk hret (hb hby d_prog_14_method_19_41) e26 ⟨by have q0 : cs = (1 : Int32) := (c20_4).symm; have q1 : ¬ rs = (0 : Int32) := fun z => c29_8 z.symm; have q2 : ¬ rs = (1 : Int32) := fun z => c29_19 z.symm; have q3 : rs = (-1 : Int32) := (c29_28).symm; simp [own_mv, q0, q1, q2, q3], (Fr.nil _), rfl⟩ (by decide) (by decide)
        · refine go (fun _ => XS.icmpYes X26.here hx rfl (pc0 := 29) (pc' := 34) rfl (hb hby d_prog_14_method_19_29) rfl (XT.ii_ne_t c29_28) (by decide) (by decide)) ?_
          show Ends p e below s _ _ _ T26 (mkF m 34 #[.val (.int cs), .val (.int rs), .val (.int (-1 : Int32)), .val (.int (7 : Int32))] [])
          refine go (fun _ => XT.iincV X26.here hx rfl (1 : Int32) (hb hby d_prog_14_method_19_34) (by decide) rfl (l' := #[.val (.int cs), .val (.int rs), .val (.int (-1 : Int32)), .val (.int (8 : Int32))]) rfl) ?_
          show Ends p e below s _ _ _ T26 (mkF m 37 #[.val (.int cs), .val (.int rs), .val (.int (-1 : Int32)), .val (.int (8 : Int32))] [])
          refine go (fun _ => XS.goto X26.here hx rfl (pc0 := 37) (pc' := 4) rfl (hb hby d_prog_14_method_19_37) (by decide) (by decide)) ?_
          show Ends p e below s _ _ _ T26 (mkF m 4 #[.val (.int cs), .val (.int rs), .val (.int (-1 : Int32)), .val (.int (8 : Int32))] [])
          refine go (fun _ => XS.iloadN X26.here hx rfl (hb hby d_prog_14_method_19_4) rfl) ?_
          show Ends p e below s _ _ _ T26 (mkF m 5 #[.val (.int cs), .val (.int rs), .val (.int (-1 : Int32)), .val (.int (8 : Int32))] [(.int (8 : Int32))])
          refine go (fun _ => XT.bipushV X26.here hx rfl (8 : Int32) (hb hby d_prog_14_method_19_5) (by decide)) ?_
          show Ends p e below s _ _ _ T26 (mkF m 7 #[.val (.int cs), .val (.int rs), .val (.int (-1 : Int32)), .val (.int (8 : Int32))] [(.int (8 : Int32)), (.int (8 : Int32))])
          refine go (fun _ => XS.icmpYes X26.here hx rfl (pc0 := 7) (pc' := 40) rfl (hb hby d_prog_14_method_19_7) rfl (XT.ii_ge_t ((by decide) : ¬ ((8 : Int32) < (8 : Int32)))) (by decide) (by decide)) ?_
          show Ends p e below s _ _ _ T26 (mkF m 40 #[.val (.int cs), .val (.int rs), .val (.int (-1 : Int32)), .val (.int (8 : Int32))] [])
          refine go (fun _ => XS.iloadN X26.here hx rfl (hb hby d_prog_14_method_19_40) rfl) ?_
          show Ends p e below s _ _ _ T26 (mkF m 41 #[.val (.int cs), .val (.int rs), .val (.int (-1 : Int32)), .val (.int (8 : Int32))] [(.int (-1 : Int32))])
          exact endI X26 hx hlk hret (hb hby d_prog_14_method_19_41) e26 ⟨by have q0 : cs = (1 : Int32) := (c20_4).symm; have q1 : ¬ rs = (0 : Int32) := fun z => c29_8 z.symm; have q2 : ¬ rs = (1 : Int32) := fun z => c29_19 z.symm; have q3 : ¬ rs = (-1 : Int32) := fun z => c29_28 z.symm; simp [own_mv, q0, q1, q2, q3], (Fr.nil _), rfl⟩ (by decide) (by decide)
  · refine go (fun _ => XS.icmpYes X1.here hx rfl (pc0 := 20) (pc' := 34) rfl (hb hby d_prog_14_method_19_20) rfl (XT.ii_ne_t c20_4) (by decide) (by decide)) ?_
    show Ends p e below s _ _ _ T1 (mkF m 34 #[.val (.int cs), .val (.int rs), .val (.int (-1 : Int32)), .val (.int (0 : Int32))] [])
    refine go (fun _ => XT.iincV X1.here hx rfl (1 : Int32) (hb hby d_prog_14_method_19_34) (by decide) rfl (l' := #[.val (.int cs), .val (.int rs), .val (.int (-1 : Int32)), .val (.int (1 : Int32))]) rfl) ?_
    show Ends p e below s _ _ _ T1 (mkF m 37 #[.val (.int cs), .val (.int rs), .val (.int (-1 : Int32)), .val (.int (1 : Int32))] [])
    refine go (fun _ => XS.goto X1.here hx rfl (pc0 := 37) (pc' := 4) rfl (hb hby d_prog_14_method_19_37) (by decide) (by decide)) ?_
    show Ends p e below s _ _ _ T1 (mkF m 4 #[.val (.int cs), .val (.int rs), .val (.int (-1 : Int32)), .val (.int (1 : Int32))] [])
    refine go (fun _ => XS.iloadN X1.here hx rfl (hb hby d_prog_14_method_19_4) rfl) ?_
    show Ends p e below s _ _ _ T1 (mkF m 5 #[.val (.int cs), .val (.int rs), .val (.int (-1 : Int32)), .val (.int (1 : Int32))] [(.int (1 : Int32))])
    refine go (fun _ => XT.bipushV X1.here hx rfl (8 : Int32) (hb hby d_prog_14_method_19_5) (by decide)) ?_
    show Ends p e below s _ _ _ T1 (mkF m 7 #[.val (.int cs), .val (.int rs), .val (.int (-1 : Int32)), .val (.int (1 : Int32))] [(.int (8 : Int32)), (.int (1 : Int32))])
    refine go (fun _ => XS.icmpNo X1.here hx rfl (hb hby d_prog_14_method_19_7) rfl (XT.ii_ge_f ((by decide) : (1 : Int32) < (8 : Int32)))) ?_
    show Ends p e below s _ _ _ T1 (mkF m 10 #[.val (.int cs), .val (.int rs), .val (.int (-1 : Int32)), .val (.int (1 : Int32))] [])
    refine go (fun _ => XS.iloadN X1.here hx rfl (hb hby d_prog_14_method_19_10) rfl) ?_
    show Ends p e below s _ _ _ T1 (mkF m 11 #[.val (.int cs), .val (.int rs), .val (.int (-1 : Int32)), .val (.int (1 : Int32))] [(.int (-1 : Int32))])
    refine go (fun _ => XS.ifNo X1.here hx rfl (hb hby d_prog_14_method_19_11) rfl (XT.i0_ge_f ((by decide) : (-1 : Int32) < (0 : Int32)))) ?_
    show Ends p e below s _ _ _ T1 (mkF m 14 #[.val (.int cs), .val (.int rs), .val (.int (-1 : Int32)), .val (.int (1 : Int32))] [])
    obtain ⟨T29, X29, e29, s29⟩ := getS2 X1 hx hZ hown (host := "") (Or.inl (hw _ (List.mem_of_getElem? (i := 4) rfl))) Via.refl e1 (Sta.ext O0 SC) (g := (mkF m 14 #[.val (.int cs), .val (.int rs), .val (.int (-1 : Int32)), .val (.int (1 : Int32))] [])) rfl (hb hby d_prog_14_method_19_14)
    refine go s29 ?_
    show Ends p e below s _ _ _ T29 (mkF m 17 #[.val (.int cs), .val (.int rs), .val (.int (-1 : Int32)), .val (.int (1 : Int32))] [(.ref aC)])
    refine go (fun _ => XS.iloadN X29.here hx rfl (hb hby d_prog_14_method_19_17) rfl) ?_
    show Ends p e below s _ _ _ T29 (mkF m 18 #[.val (.int cs), .val (.int rs), .val (.int (-1 : Int32)), .val (.int (1 : Int32))] [(.int (1 : Int32)), (.ref aC)])
    obtain ⟨c30, A30, -, S30, M30, H30, -⟩ := id F2
    have B30 := inb_of S30 (j := (1 : Int32)) (by decide)
    refine go (fun _ => X29.iaload hx (j := (1 : Int32)) (v := (.int (0 : Int32))) (by rw [e29]; exact A30.1) (State.isArrayOf_alike hZ.alike A30.2.1) A30.2.2 B30 (H30.at B30 rfl) (g := (mkF m 18 #[.val (.int cs), .val (.int rs), .val (.int (-1 : Int32)), .val (.int (1 : Int32))] [(.int (1 : Int32)), (.ref aC)])) rfl rfl (hb hby d_prog_14_method_19_18) _) ?_
    show Ends p e below s _ _ _ T29 (mkF m 19 #[.val (.int cs), .val (.int rs), .val (.int (-1 : Int32)), .val (.int (1 : Int32))] [(.int (0 : Int32))])
    refine go (fun _ => XS.iloadN X29.here hx rfl (hb hby d_prog_14_method_19_19) rfl) ?_
    show Ends p e below s _ _ _ T29 (mkF m 20 #[.val (.int cs), .val (.int rs), .val (.int (-1 : Int32)), .val (.int (1 : Int32))] [(.int cs), (.int (0 : Int32))])
    by_cases c20_31 : (0 : Int32) = cs
    · refine go (fun _ => XS.icmpNo X29.here hx rfl (hb hby d_prog_14_method_19_20) rfl (XT.ii_ne_f c20_31)) ?_
      show Ends p e below s _ _ _ T29 (mkF m 23 #[.val (.int cs), .val (.int rs), .val (.int (-1 : Int32)), .val (.int (1 : Int32))] [])
      obtain ⟨T32, X32, e32, s32⟩ := getS2 X29 hx hZ hown (host := "") (Or.inl (hw _ (List.mem_of_getElem? (i := 6) rfl))) Via.refl e29 (Sta.ext O0 SR) (g := (mkF m 23 #[.val (.int cs), .val (.int rs), .val (.int (-1 : Int32)), .val (.int (1 : Int32))] [])) rfl (hb hby d_prog_14_method_19_23)
      refine go s32 ?_
      show Ends p e below s _ _ _ T32 (mkF m 26 #[.val (.int cs), .val (.int rs), .val (.int (-1 : Int32)), .val (.int (1 : Int32))] [(.ref aR)])
      refine go (fun _ => XS.iloadN X32.here hx rfl (hb hby d_prog_14_method_19_26) rfl) ?_
      show Ends p e below s _ _ _ T32 (mkF m 27 #[.val (.int cs), .val (.int rs), .val (.int (-1 : Int32)), .val (.int (1 : Int32))] [(.int (1 : Int32)), (.ref aR)])
      have F33 := (Arv.ext VR O0)
      obtain ⟨c34, A34, -, S34, M34, H34, -⟩ := id F33
      have B34 := inb_of S34 (j := (1 : Int32)) (by decide)
      refine go (fun _ => X32.iaload hx (j := (1 : Int32)) (v := (.int (1 : Int32))) (by rw [e32]; exact A34.1) (State.isArrayOf_alike hZ.alike A34.2.1) A34.2.2 B34 (H34.at B34 rfl) (g := (mkF m 27 #[.val (.int cs), .val (.int rs), .val (.int (-1 : Int32)), .val (.int (1 : Int32))] [(.int (1 : Int32)), (.ref aR)])) rfl rfl (hb hby d_prog_14_method_19_27) _) ?_
      show Ends p e below s _ _ _ T32 (mkF m 28 #[.val (.int cs), .val (.int rs), .val (.int (-1 : Int32)), .val (.int (1 : Int32))] [(.int (1 : Int32))])
      refine go (fun _ => XS.iloadN X32.here hx rfl (hb hby d_prog_14_method_19_28) rfl) ?_
      show Ends p e below s _ _ _ T32 (mkF m 29 #[.val (.int cs), .val (.int rs), .val (.int (-1 : Int32)), .val (.int (1 : Int32))] [(.int rs), (.int (1 : Int32))])
      by_cases c29_35 : (1 : Int32) = rs
      · refine go (fun _ => XS.icmpNo X32.here hx rfl (hb hby d_prog_14_method_19_29) rfl (XT.ii_ne_f c29_35)) ?_
        show Ends p e below s _ _ _ T32 (mkF m 32 #[.val (.int cs), .val (.int rs), .val (.int (-1 : Int32)), .val (.int (1 : Int32))] [])
        refine go (fun _ => XS.iloadN X32.here hx rfl (hb hby d_prog_14_method_19_32) rfl) ?_
        show Ends p e below s _ _ _ T32 (mkF m 33 #[.val (.int cs), .val (.int rs), .val (.int (-1 : Int32)), .val (.int (1 : Int32))] [(.int (1 : Int32))])
        refine go (fun _ => XS.istoreN X32.here hx rfl (hb hby d_prog_14_method_19_33) rfl (l' := #[.val (.int cs), .val (.int rs), .val (.int (1 : Int32)), .val (.int (1 : Int32))]) rfl) ?_
        show Ends p e below s _ _ _ T32 (mkF m 34 #[.val (.int cs), .val (.int rs), .val (.int (1 : Int32)), .val (.int (1 : Int32))] [])
        refine go (fun _ => XT.iincV X32.here hx rfl (1 : Int32) (hb hby d_prog_14_method_19_34) (by decide) rfl (l' := #[.val (.int cs), .val (.int rs), .val (.int (1 : Int32)), .val (.int (2 : Int32))]) rfl) ?_
        show Ends p e below s _ _ _ T32 (mkF m 37 #[.val (.int cs), .val (.int rs), .val (.int (1 : Int32)), .val (.int (2 : Int32))] [])
        refine go (fun _ => XS.goto X32.here hx rfl (pc0 := 37) (pc' := 4) rfl (hb hby d_prog_14_method_19_37) (by decide) (by decide)) ?_
        show Ends p e below s _ _ _ T32 (mkF m 4 #[.val (.int cs), .val (.int rs), .val (.int (1 : Int32)), .val (.int (2 : Int32))] [])
        refine go (fun _ => XS.iloadN X32.here hx rfl (hb hby d_prog_14_method_19_4) rfl) ?_
        show Ends p e below s _ _ _ T32 (mkF m 5 #[.val (.int cs), .val (.int rs), .val (.int (1 : Int32)), .val (.int (2 : Int32))] [(.int (2 : Int32))])
        refine go (fun _ => XT.bipushV X32.here hx rfl (8 : Int32) (hb hby d_prog_14_method_19_5) (by decide)) ?_
        show Ends p e below s _ _ _ T32 (mkF m 7 #[.val (.int cs), .val (.int rs), .val (.int (1 : Int32)), .val (.int (2 : Int32))] [(.int (8 : Int32)), (.int (2 : Int32))])
        refine go (fun _ => XS.icmpNo X32.here hx rfl (hb hby d_prog_14_method_19_7) rfl (XT.ii_ge_f ((by decide) : (2 : Int32) < (8 : Int32)))) ?_
        show Ends p e below s _ _ _ T32 (mkF m 10 #[.val (.int cs), .val (.int rs), .val (.int (1 : Int32)), .val (.int (2 : Int32))] [])
        refine go (fun _ => XS.iloadN X32.here hx rfl (hb hby d_prog_14_method_19_10) rfl) ?_
        show Ends p e below s _ _ _ T32 (mkF m 11 #[.val (.int cs), .val (.int rs), .val (.int (1 : Int32)), .val (.int (2 : Int32))] [(.int (1 : Int32))])
        refine go (fun _ => XS.ifYes X32.here hx rfl (pc0 := 11) (pc' := 40) rfl (hb hby d_prog_14_method_19_11) rfl (XT.i0_ge_t ((by decide) : ¬ ((1 : Int32) < (0 : Int32)))) (by decide) (by decide)) ?_
        show Ends p e below s _ _ _ T32 (mkF m 40 #[.val (.int cs), .val (.int rs), .val (.int (1 : Int32)), .val (.int (2 : Int32))] [])
        refine go (fun _ => XS.iloadN X32.here hx rfl (hb hby d_prog_14_method_19_40) rfl) ?_
        show Ends p e below s _ _ _ T32 (mkF m 41 #[.val (.int cs), .val (.int rs), .val (.int (1 : Int32)), .val (.int (2 : Int32))] [(.int (1 : Int32))])
        exact endI X32 hx hlk hret (hb hby d_prog_14_method_19_41) e32 ⟨by have q0 : ¬ cs = (1 : Int32) := fun z => c20_4 z.symm; have q1 : cs = (0 : Int32) := (c20_31).symm; have q2 : rs = (1 : Int32) := (c29_35).symm; simp [own_mv, q0, q1, q2], (Fr.nil _), rfl⟩ (by decide) (by decide)
      · refine go (fun _ => XS.icmpYes X32.here hx rfl (pc0 := 29) (pc' := 34) rfl (hb hby d_prog_14_method_19_29) rfl (XT.ii_ne_t c29_35) (by decide) (by decide)) ?_
        show Ends p e below s _ _ _ T32 (mkF m 34 #[.val (.int cs), .val (.int rs), .val (.int (-1 : Int32)), .val (.int (1 : Int32))] [])
        refine go (fun _ => XT.iincV X32.here hx rfl (1 : Int32) (hb hby d_prog_14_method_19_34) (by decide) rfl (l' := #[.val (.int cs), .val (.int rs), .val (.int (-1 : Int32)), .val (.int (2 : Int32))]) rfl) ?_
        show Ends p e below s _ _ _ T32 (mkF m 37 #[.val (.int cs), .val (.int rs), .val (.int (-1 : Int32)), .val (.int (2 : Int32))] [])
        refine go (fun _ => XS.goto X32.here hx rfl (pc0 := 37) (pc' := 4) rfl (hb hby d_prog_14_method_19_37) (by decide) (by decide)) ?_
        show Ends p e below s _ _ _ T32 (mkF m 4 #[.val (.int cs), .val (.int rs), .val (.int (-1 : Int32)), .val (.int (2 : Int32))] [])
        refine go (fun _ => XS.iloadN X32.here hx rfl (hb hby d_prog_14_method_19_4) rfl) ?_
        show Ends p e below s _ _ _ T32 (mkF m 5 #[.val (.int cs), .val (.int rs), .val (.int (-1 : Int32)), .val (.int (2 : Int32))] [(.int (2 : Int32))])
        refine go (fun _ => XT.bipushV X32.here hx rfl (8 : Int32) (hb hby d_prog_14_method_19_5) (by decide)) ?_
        show Ends p e below s _ _ _ T32 (mkF m 7 #[.val (.int cs), .val (.int rs), .val (.int (-1 : Int32)), .val (.int (2 : Int32))] [(.int (8 : Int32)), (.int (2 : Int32))])
        refine go (fun _ => XS.icmpNo X32.here hx rfl (hb hby d_prog_14_method_19_7) rfl (XT.ii_ge_f ((by decide) : (2 : Int32) < (8 : Int32)))) ?_
        show Ends p e below s _ _ _ T32 (mkF m 10 #[.val (.int cs), .val (.int rs), .val (.int (-1 : Int32)), .val (.int (2 : Int32))] [])
        refine go (fun _ => XS.iloadN X32.here hx rfl (hb hby d_prog_14_method_19_10) rfl) ?_
        show Ends p e below s _ _ _ T32 (mkF m 11 #[.val (.int cs), .val (.int rs), .val (.int (-1 : Int32)), .val (.int (2 : Int32))] [(.int (-1 : Int32))])
        refine go (fun _ => XS.ifNo X32.here hx rfl (hb hby d_prog_14_method_19_11) rfl (XT.i0_ge_f ((by decide) : (-1 : Int32) < (0 : Int32)))) ?_
        show Ends p e below s _ _ _ T32 (mkF m 14 #[.val (.int cs), .val (.int rs), .val (.int (-1 : Int32)), .val (.int (2 : Int32))] [])
        obtain ⟨T36, X36, e36, s36⟩ := getS2 X32 hx hZ hown (host := "") (Or.inl (hw _ (List.mem_of_getElem? (i := 4) rfl))) Via.refl e32 (Sta.ext O0 SC) (g := (mkF m 14 #[.val (.int cs), .val (.int rs), .val (.int (-1 : Int32)), .val (.int (2 : Int32))] [])) rfl (hb hby d_prog_14_method_19_14)
        refine go s36 ?_
        show Ends p e below s _ _ _ T36 (mkF m 17 #[.val (.int cs), .val (.int rs), .val (.int (-1 : Int32)), .val (.int (2 : Int32))] [(.ref aC)])
        refine go (fun _ => XS.iloadN X36.here hx rfl (hb hby d_prog_14_method_19_17) rfl) ?_
        show Ends p e below s _ _ _ T36 (mkF m 18 #[.val (.int cs), .val (.int rs), .val (.int (-1 : Int32)), .val (.int (2 : Int32))] [(.int (2 : Int32)), (.ref aC)])
        obtain ⟨c37, A37, -, S37, M37, H37, -⟩ := id F2
        have B37 := inb_of S37 (j := (2 : Int32)) (by decide)
        refine go (fun _ => X36.iaload hx (j := (2 : Int32)) (v := (.int (-1 : Int32))) (by rw [e36]; exact A37.1) (State.isArrayOf_alike hZ.alike A37.2.1) A37.2.2 B37 (H37.at B37 rfl) (g := (mkF m 18 #[.val (.int cs), .val (.int rs), .val (.int (-1 : Int32)), .val (.int (2 : Int32))] [(.int (2 : Int32)), (.ref aC)])) rfl rfl (hb hby d_prog_14_method_19_18) _) ?_
        show Ends p e below s _ _ _ T36 (mkF m 19 #[.val (.int cs), .val (.int rs), .val (.int (-1 : Int32)), .val (.int (2 : Int32))] [(.int (-1 : Int32))])
        refine go (fun _ => XS.iloadN X36.here hx rfl (hb hby d_prog_14_method_19_19) rfl) ?_
        show Ends p e below s _ _ _ T36 (mkF m 20 #[.val (.int cs), .val (.int rs), .val (.int (-1 : Int32)), .val (.int (2 : Int32))] [(.int cs), (.int (-1 : Int32))])
        refine go (fun _ => XS.icmpYes X36.here hx rfl (pc0 := 20) (pc' := 34) rfl (hb hby d_prog_14_method_19_20) rfl (XT.ii_ne_t ((by rw [← c20_31]; decide) : ¬ ((-1 : Int32) = cs))) (by decide) (by decide)) ?_
        show Ends p e below s _ _ _ T36 (mkF m 34 #[.val (.int cs), .val (.int rs), .val (.int (-1 : Int32)), .val (.int (2 : Int32))] [])
        refine go (fun _ => XT.iincV X36.here hx rfl (1 : Int32) (hb hby d_prog_14_method_19_34) (by decide) rfl (l' := #[.val (.int cs), .val (.int rs), .val (.int (-1 : Int32)), .val (.int (3 : Int32))]) rfl) ?_
        show Ends p e below s _ _ _ T36 (mkF m 37 #[.val (.int cs), .val (.int rs), .val (.int (-1 : Int32)), .val (.int (3 : Int32))] [])
        refine go (fun _ => XS.goto X36.here hx rfl (pc0 := 37) (pc' := 4) rfl (hb hby d_prog_14_method_19_37) (by decide) (by decide)) ?_
        show Ends p e below s _ _ _ T36 (mkF m 4 #[.val (.int cs), .val (.int rs), .val (.int (-1 : Int32)), .val (.int (3 : Int32))] [])
        refine go (fun _ => XS.iloadN X36.here hx rfl (hb hby d_prog_14_method_19_4) rfl) ?_
        show Ends p e below s _ _ _ T36 (mkF m 5 #[.val (.int cs), .val (.int rs), .val (.int (-1 : Int32)), .val (.int (3 : Int32))] [(.int (3 : Int32))])
        refine go (fun _ => XT.bipushV X36.here hx rfl (8 : Int32) (hb hby d_prog_14_method_19_5) (by decide)) ?_
        show Ends p e below s _ _ _ T36 (mkF m 7 #[.val (.int cs), .val (.int rs), .val (.int (-1 : Int32)), .val (.int (3 : Int32))] [(.int (8 : Int32)), (.int (3 : Int32))])
        refine go (fun _ => XS.icmpNo X36.here hx rfl (hb hby d_prog_14_method_19_7) rfl (XT.ii_ge_f ((by decide) : (3 : Int32) < (8 : Int32)))) ?_
        show Ends p e below s _ _ _ T36 (mkF m 10 #[.val (.int cs), .val (.int rs), .val (.int (-1 : Int32)), .val (.int (3 : Int32))] [])
        refine go (fun _ => XS.iloadN X36.here hx rfl (hb hby d_prog_14_method_19_10) rfl) ?_
        show Ends p e below s _ _ _ T36 (mkF m 11 #[.val (.int cs), .val (.int rs), .val (.int (-1 : Int32)), .val (.int (3 : Int32))] [(.int (-1 : Int32))])
        refine go (fun _ => XS.ifNo X36.here hx rfl (hb hby d_prog_14_method_19_11) rfl (XT.i0_ge_f ((by decide) : (-1 : Int32) < (0 : Int32)))) ?_
        show Ends p e below s _ _ _ T36 (mkF m 14 #[.val (.int cs), .val (.int rs), .val (.int (-1 : Int32)), .val (.int (3 : Int32))] [])
        obtain ⟨T38, X38, e38, s38⟩ := getS2 X36 hx hZ hown (host := "") (Or.inl (hw _ (List.mem_of_getElem? (i := 4) rfl))) Via.refl e36 (Sta.ext O0 SC) (g := (mkF m 14 #[.val (.int cs), .val (.int rs), .val (.int (-1 : Int32)), .val (.int (3 : Int32))] [])) rfl (hb hby d_prog_14_method_19_14)
        refine go s38 ?_
        show Ends p e below s _ _ _ T38 (mkF m 17 #[.val (.int cs), .val (.int rs), .val (.int (-1 : Int32)), .val (.int (3 : Int32))] [(.ref aC)])
        refine go (fun _ => XS.iloadN X38.here hx rfl (hb hby d_prog_14_method_19_17) rfl) ?_
        show Ends p e below s _ _ _ T38 (mkF m 18 #[.val (.int cs), .val (.int rs), .val (.int (-1 : Int32)), .val (.int (3 : Int32))] [(.int (3 : Int32)), (.ref aC)])
        obtain ⟨c39, A39, -, S39, M39, H39, -⟩ := id F2
        have B39 := inb_of S39 (j := (3 : Int32)) (by decide)
        refine go (fun _ => X38.iaload hx (j := (3 : Int32)) (v := (.int (0 : Int32))) (by rw [e38]; exact A39.1) (State.isArrayOf_alike hZ.alike A39.2.1) A39.2.2 B39 (H39.at B39 rfl) (g := (mkF m 18 #[.val (.int cs), .val (.int rs), .val (.int (-1 : Int32)), .val (.int (3 : Int32))] [(.int (3 : Int32)), (.ref aC)])) rfl rfl (hb hby d_prog_14_method_19_18) _) ?_
        show Ends p e below s _ _ _ T38 (mkF m 19 #[.val (.int cs), .val (.int rs), .val (.int (-1 : Int32)), .val (.int (3 : Int32))] [(.int (0 : Int32))])
        refine go (fun _ => XS.iloadN X38.here hx rfl (hb hby d_prog_14_method_19_19) rfl) ?_
        show Ends p e below s _ _ _ T38 (mkF m 20 #[.val (.int cs), .val (.int rs), .val (.int (-1 : Int32)), .val (.int (3 : Int32))] [(.int cs), (.int (0 : Int32))])
        refine go (fun _ => XS.icmpNo X38.here hx rfl (hb hby d_prog_14_method_19_20) rfl (XT.ii_ne_f c20_31)) ?_
        show Ends p e below s _ _ _ T38 (mkF m 23 #[.val (.int cs), .val (.int rs), .val (.int (-1 : Int32)), .val (.int (3 : Int32))] [])
        obtain ⟨T40, X40, e40, s40⟩ := getS2 X38 hx hZ hown (host := "") (Or.inl (hw _ (List.mem_of_getElem? (i := 6) rfl))) Via.refl e38 (Sta.ext O0 SR) (g := (mkF m 23 #[.val (.int cs), .val (.int rs), .val (.int (-1 : Int32)), .val (.int (3 : Int32))] [])) rfl (hb hby d_prog_14_method_19_23)
        refine go s40 ?_
        show Ends p e below s _ _ _ T40 (mkF m 26 #[.val (.int cs), .val (.int rs), .val (.int (-1 : Int32)), .val (.int (3 : Int32))] [(.ref aR)])
        refine go (fun _ => XS.iloadN X40.here hx rfl (hb hby d_prog_14_method_19_26) rfl) ?_
        show Ends p e below s _ _ _ T40 (mkF m 27 #[.val (.int cs), .val (.int rs), .val (.int (-1 : Int32)), .val (.int (3 : Int32))] [(.int (3 : Int32)), (.ref aR)])
        obtain ⟨c41, A41, -, S41, M41, H41, -⟩ := id F33
        have B41 := inb_of S41 (j := (3 : Int32)) (by decide)
        refine go (fun _ => X40.iaload hx (j := (3 : Int32)) (v := (.int (-1 : Int32))) (by rw [e40]; exact A41.1) (State.isArrayOf_alike hZ.alike A41.2.1) A41.2.2 B41 (H41.at B41 rfl) (g := (mkF m 27 #[.val (.int cs), .val (.int rs), .val (.int (-1 : Int32)), .val (.int (3 : Int32))] [(.int (3 : Int32)), (.ref aR)])) rfl rfl (hb hby d_prog_14_method_19_27) _) ?_
        show Ends p e below s _ _ _ T40 (mkF m 28 #[.val (.int cs), .val (.int rs), .val (.int (-1 : Int32)), .val (.int (3 : Int32))] [(.int (-1 : Int32))])
        refine go (fun _ => XS.iloadN X40.here hx rfl (hb hby d_prog_14_method_19_28) rfl) ?_
        show Ends p e below s _ _ _ T40 (mkF m 29 #[.val (.int cs), .val (.int rs), .val (.int (-1 : Int32)), .val (.int (3 : Int32))] [(.int rs), (.int (-1 : Int32))])
        by_cases c29_42 : (-1 : Int32) = rs
        · refine go (fun _ => XS.icmpNo X40.here hx rfl (hb hby d_prog_14_method_19_29) rfl (XT.ii_ne_f c29_42)) ?_
          show Ends p e below s _ _ _ T40 (mkF m 32 #[.val (.int cs), .val (.int rs), .val (.int (-1 : Int32)), .val (.int (3 : Int32))] [])
          refine go (fun _ => XS.iloadN X40.here hx rfl (hb hby d_prog_14_method_19_32) rfl) ?_
          show Ends p e below s _ _ _ T40 (mkF m 33 #[.val (.int cs), .val (.int rs), .val (.int (-1 : Int32)), .val (.int (3 : Int32))] [(.int (3 : Int32))])
          refine go (fun _ => XS.istoreN X40.here hx rfl (hb hby d_prog_14_method_19_33) rfl (l' := #[.val (.int cs), .val (.int rs), .val (.int (3 : Int32)), .val (.int (3 : Int32))]) rfl) ?_
          show Ends p e below s _ _ _ T40 (mkF m 34 #[.val (.int cs), .val (.int rs), .val (.int (3 : Int32)), .val (.int (3 : Int32))] [])
          refine go (fun _ => XT.iincV X40.here hx rfl (1 : Int32) (hb hby d_prog_14_method_19_34) (by decide) rfl (l' := #[.val (.int cs), .val (.int rs), .val (.int (3 : Int32)), .val (.int (4 : Int32))]) rfl) ?_
          show Ends p e below s _ _ _ T40 (mkF m 37 #[.val (.int cs), .val (.int rs), .val (.int (3 : Int32)), .val (.int (4 : Int32))] [])
          refine go (fun _ => XS.goto X40.here hx rfl (pc0 := 37) (pc' := 4) rfl (hb hby d_prog_14_method_19_37) (by decide) (by decide)) ?_
          show Ends p e below s _ _ _ T40 (mkF m 4 #[.val (.int cs), .val (.int rs), .val (.int (3 : Int32)), .val (.int (4 : Int32))] [])
          refine go (fun _ => XS.iloadN X40.here hx rfl (hb hby d_prog_14_method_19_4) rfl) ?_
          show Ends p e below s _ _ _ T40 (mkF m 5 #[.val (.int cs), .val (.int rs), .val (.int (3 : Int32)), .val (.int (4 : Int32))] [(.int (4 : Int32))])
          refine go (fun _ => XT.bipushV X40.here hx rfl (8 : Int32) (hb hby d_prog_14_method_19_5) (by decide)) ?_
          show Ends p e below s _ _ _ T40 (mkF m 7 #[.val (.int cs), .val (.int rs), .val (.int (3 : Int32)), .val (.int (4 : Int32))] [(.int (8 : Int32)), (.int (4 : Int32))])
          refine go (fun _ => XS.icmpNo X40.here hx rfl (hb hby d_prog_14_method_19_7) rfl (XT.ii_ge_f ((by decide) : (4 : Int32) < (8 : Int32)))) ?_
          show Ends p e below s _ _ _ T40 (mkF m 10 #[.val (.int cs), .val (.int rs), .val (.int (3 : Int32)), .val (.int (4 : Int32))] [])
          refine go (fun _ => XS.iloadN X40.here hx rfl (hb hby d_prog_14_method_19_10) rfl) ?_
          show Ends p e below s _ _ _ T40 (mkF m 11 #[.val (.int cs), .val (.int rs), .val (.int (3 : Int32)), .val (.int (4 : Int32))] [(.int (3 : Int32))])
          refine go (fun _ => XS.ifYes X40.here hx rfl (pc0 := 11) (pc' := 40) rfl (hb hby d_prog_14_method_19_11) rfl (XT.i0_ge_t ((by decide) : ¬ ((3 : Int32) < (0 : Int32)))) (by decide) (by decide)) ?_
          show Ends p e below s _ _ _ T40 (mkF m 40 #[.val (.int cs), .val (.int rs), .val (.int (3 : Int32)), .val (.int (4 : Int32))] [])
          refine go (fun _ => XS.iloadN X40.here hx rfl (hb hby d_prog_14_method_19_40) rfl) ?_
          show Ends p e below s _ _ _ T40 (mkF m 41 #[.val (.int cs), .val (.int rs), .val (.int (3 : Int32)), .val (.int (4 : Int32))] [(.int (3 : Int32))])
          exact endI X40 hx hlk hret (hb hby d_prog_14_method_19_41) e40 ⟨by have q0 : ¬ cs = (1 : Int32) := fun z => c20_4 z.symm; have q1 : cs = (0 : Int32) := (c20_31).symm; have q2 : ¬ rs = (1 : Int32) := fun z => c29_35 z.symm; have q3 : rs = (-1 : Int32) := (c29_42).symm; simp [own_mv, q0, q1, q2, q3], (Fr.nil _), rfl⟩ (by decide) (by decide)
        · refine go (fun _ => XS.icmpYes X40.here hx rfl (pc0 := 29) (pc' := 34) rfl (hb hby d_prog_14_method_19_29) rfl (XT.ii_ne_t c29_42) (by decide) (by decide)) ?_
          show Ends p e below s _ _ _ T40 (mkF m 34 #[.val (.int cs), .val (.int rs), .val (.int (-1 : Int32)), .val (.int (3 : Int32))] [])
          refine go (fun _ => XT.iincV X40.here hx rfl (1 : Int32) (hb hby d_prog_14_method_19_34) (by decide) rfl (l' := #[.val (.int cs), .val (.int rs), .val (.int (-1 : Int32)), .val (.int (4 : Int32))]) rfl) ?_
          show Ends p e below s _ _ _ T40 (mkF m 37 #[.val (.int cs), .val (.int rs), .val (.int (-1 : Int32)), .val (.int (4 : Int32))] [])
          refine go (fun _ => XS.goto X40.here hx rfl (pc0 := 37) (pc' := 4) rfl (hb hby d_prog_14_method_19_37) (by decide) (by decide)) ?_
          show Ends p e below s _ _ _ T40 (mkF m 4 #[.val (.int cs), .val (.int rs), .val (.int (-1 : Int32)), .val (.int (4 : Int32))] [])
          refine go (fun _ => XS.iloadN X40.here hx rfl (hb hby d_prog_14_method_19_4) rfl) ?_
          show Ends p e below s _ _ _ T40 (mkF m 5 #[.val (.int cs), .val (.int rs), .val (.int (-1 : Int32)), .val (.int (4 : Int32))] [(.int (4 : Int32))])
          refine go (fun _ => XT.bipushV X40.here hx rfl (8 : Int32) (hb hby d_prog_14_method_19_5) (by decide)) ?_
          show Ends p e below s _ _ _ T40 (mkF m 7 #[.val (.int cs), .val (.int rs), .val (.int (-1 : Int32)), .val (.int (4 : Int32))] [(.int (8 : Int32)), (.int (4 : Int32))])
          refine go (fun _ => XS.icmpNo X40.here hx rfl (hb hby d_prog_14_method_19_7) rfl (XT.ii_ge_f ((by decide) : (4 : Int32) < (8 : Int32)))) ?_
          show Ends p e below s _ _ _ T40 (mkF m 10 #[.val (.int cs), .val (.int rs), .val (.int (-1 : Int32)), .val (.int (4 : Int32))] [])
          refine go (fun _ => XS.iloadN X40.here hx rfl (hb hby d_prog_14_method_19_10) rfl) ?_
          show Ends p e below s _ _ _ T40 (mkF m 11 #[.val (.int cs), .val (.int rs), .val (.int (-1 : Int32)), .val (.int (4 : Int32))] [(.int (-1 : Int32))])
          refine go (fun _ => XS.ifNo X40.here hx rfl (hb hby d_prog_14_method_19_11) rfl (XT.i0_ge_f ((by decide) : (-1 : Int32) < (0 : Int32)))) ?_
          show Ends p e below s _ _ _ T40 (mkF m 14 #[.val (.int cs), .val (.int rs), .val (.int (-1 : Int32)), .val (.int (4 : Int32))] [])
          obtain ⟨T43, X43, e43, s43⟩ := getS2 X40 hx hZ hown (host := "") (Or.inl (hw _ (List.mem_of_getElem? (i := 4) rfl))) Via.refl e40 (Sta.ext O0 SC) (g := (mkF m 14 #[.val (.int cs), .val (.int rs), .val (.int (-1 : Int32)), .val (.int (4 : Int32))] [])) rfl (hb hby d_prog_14_method_19_14)
          refine go s43 ?_
          show Ends p e below s _ _ _ T43 (mkF m 17 #[.val (.int cs), .val (.int rs), .val (.int (-1 : Int32)), .val (.int (4 : Int32))] [(.ref aC)])
          refine go (fun _ => XS.iloadN X43.here hx rfl (hb hby d_prog_14_method_19_17) rfl) ?_
          show Ends p e below s _ _ _ T43 (mkF m 18 #[.val (.int cs), .val (.int rs), .val (.int (-1 : Int32)), .val (.int (4 : Int32))] [(.int (4 : Int32)), (.ref aC)])
          obtain ⟨c44, A44, -, S44, M44, H44, -⟩ := id F2
          have B44 := inb_of S44 (j := (4 : Int32)) (by decide)
          refine go (fun _ => X43.iaload hx (j := (4 : Int32)) (v := (.int (1 : Int32))) (by rw [e43]; exact A44.1) (State.isArrayOf_alike hZ.alike A44.2.1) A44.2.2 B44 (H44.at B44 rfl) (g := (mkF m 18 #[.val (.int cs), .val (.int rs), .val (.int (-1 : Int32)), .val (.int (4 : Int32))] [(.int (4 : Int32)), (.ref aC)])) rfl rfl (hb hby d_prog_14_method_19_18) _) ?_
          show Ends p e below s _ _ _ T43 (mkF m 19 #[.val (.int cs), .val (.int rs), .val (.int (-1 : Int32)), .val (.int (4 : Int32))] [(.int (1 : Int32))])
          refine go (fun _ => XS.iloadN X43.here hx rfl (hb hby d_prog_14_method_19_19) rfl) ?_
          show Ends p e below s _ _ _ T43 (mkF m 20 #[.val (.int cs), .val (.int rs), .val (.int (-1 : Int32)), .val (.int (4 : Int32))] [(.int cs), (.int (1 : Int32))])
          refine go (fun _ => XS.icmpYes X43.here hx rfl (pc0 := 20) (pc' := 34) rfl (hb hby d_prog_14_method_19_20) rfl (XT.ii_ne_t c20_4) (by decide) (by decide)) ?_
          show Ends p e below s _ _ _ T43 (mkF m 34 #[.val (.int cs), .val (.int rs), .val (.int (-1 : Int32)), .val (.int (4 : Int32))] [])
          refine go (fun _ => XT.iincV X43.here hx rfl (1 : Int32) (hb hby d_prog_14_method_19_34) (by decide) rfl (l' := #[.val (.int cs), .val (.int rs), .val (.int (-1 : Int32)), .val (.int (5 : Int32))]) rfl) ?_
          show Ends p e below s _ _ _ T43 (mkF m 37 #[.val (.int cs), .val (.int rs), .val (.int (-1 : Int32)), .val (.int (5 : Int32))] [])
          refine go (fun _ => XS.goto X43.here hx rfl (pc0 := 37) (pc' := 4) rfl (hb hby d_prog_14_method_19_37) (by decide) (by decide)) ?_
          show Ends p e below s _ _ _ T43 (mkF m 4 #[.val (.int cs), .val (.int rs), .val (.int (-1 : Int32)), .val (.int (5 : Int32))] [])
          refine go (fun _ => XS.iloadN X43.here hx rfl (hb hby d_prog_14_method_19_4) rfl) ?_
          show Ends p e below s _ _ _ T43 (mkF m 5 #[.val (.int cs), .val (.int rs), .val (.int (-1 : Int32)), .val (.int (5 : Int32))] [(.int (5 : Int32))])
          refine go (fun _ => XT.bipushV X43.here hx rfl (8 : Int32) (hb hby d_prog_14_method_19_5) (by decide)) ?_
          show Ends p e below s _ _ _ T43 (mkF m 7 #[.val (.int cs), .val (.int rs), .val (.int (-1 : Int32)), .val (.int (5 : Int32))] [(.int (8 : Int32)), (.int (5 : Int32))])
          refine go (fun _ => XS.icmpNo X43.here hx rfl (hb hby d_prog_14_method_19_7) rfl (XT.ii_ge_f ((by decide) : (5 : Int32) < (8 : Int32)))) ?_
          show Ends p e below s _ _ _ T43 (mkF m 10 #[.val (.int cs), .val (.int rs), .val (.int (-1 : Int32)), .val (.int (5 : Int32))] [])
          refine go (fun _ => XS.iloadN X43.here hx rfl (hb hby d_prog_14_method_19_10) rfl) ?_
          show Ends p e below s _ _ _ T43 (mkF m 11 #[.val (.int cs), .val (.int rs), .val (.int (-1 : Int32)), .val (.int (5 : Int32))] [(.int (-1 : Int32))])
          refine go (fun _ => XS.ifNo X43.here hx rfl (hb hby d_prog_14_method_19_11) rfl (XT.i0_ge_f ((by decide) : (-1 : Int32) < (0 : Int32)))) ?_
          show Ends p e below s _ _ _ T43 (mkF m 14 #[.val (.int cs), .val (.int rs), .val (.int (-1 : Int32)), .val (.int (5 : Int32))] [])
          obtain ⟨T45, X45, e45, s45⟩ := getS2 X43 hx hZ hown (host := "") (Or.inl (hw _ (List.mem_of_getElem? (i := 4) rfl))) Via.refl e43 (Sta.ext O0 SC) (g := (mkF m 14 #[.val (.int cs), .val (.int rs), .val (.int (-1 : Int32)), .val (.int (5 : Int32))] [])) rfl (hb hby d_prog_14_method_19_14)
          refine go s45 ?_
          show Ends p e below s _ _ _ T45 (mkF m 17 #[.val (.int cs), .val (.int rs), .val (.int (-1 : Int32)), .val (.int (5 : Int32))] [(.ref aC)])
          refine go (fun _ => XS.iloadN X45.here hx rfl (hb hby d_prog_14_method_19_17) rfl) ?_
          show Ends p e below s _ _ _ T45 (mkF m 18 #[.val (.int cs), .val (.int rs), .val (.int (-1 : Int32)), .val (.int (5 : Int32))] [(.int (5 : Int32)), (.ref aC)])
          obtain ⟨c46, A46, -, S46, M46, H46, -⟩ := id F2
          have B46 := inb_of S46 (j := (5 : Int32)) (by decide)
          refine go (fun _ => X45.iaload hx (j := (5 : Int32)) (v := (.int (-1 : Int32))) (by rw [e45]; exact A46.1) (State.isArrayOf_alike hZ.alike A46.2.1) A46.2.2 B46 (H46.at B46 rfl) (g := (mkF m 18 #[.val (.int cs), .val (.int rs), .val (.int (-1 : Int32)), .val (.int (5 : Int32))] [(.int (5 : Int32)), (.ref aC)])) rfl rfl (hb hby d_prog_14_method_19_18) _) ?_
          show Ends p e below s _ _ _ T45 (mkF m 19 #[.val (.int cs), .val (.int rs), .val (.int (-1 : Int32)), .val (.int (5 : Int32))] [(.int (-1 : Int32))])
          refine go (fun _ => XS.iloadN X45.here hx rfl (hb hby d_prog_14_method_19_19) rfl) ?_
          show Ends p e below s _ _ _ T45 (mkF m 20 #[.val (.int cs), .val (.int rs), .val (.int (-1 : Int32)), .val (.int (5 : Int32))] [(.int cs), (.int (-1 : Int32))])
          refine go (fun _ => XS.icmpYes X45.here hx rfl (pc0 := 20) (pc' := 34) rfl (hb hby d_prog_14_method_19_20) rfl (XT.ii_ne_t ((by rw [← c20_31]; decide) : ¬ ((-1 : Int32) = cs))) (by decide) (by decide)) ?_
          show Ends p e below s _ _ _ T45 (mkF m 34 #[.val (.int cs), .val (.int rs), .val (.int (-1 : Int32)), .val (.int (5 : Int32))] [])
          refine go (fun _ => XT.iincV X45.here hx rfl (1 : Int32) (hb hby d_prog_14_method_19_34) (by decide) rfl (l' := #[.val (.int cs), .val (.int rs), .val (.int (-1 : Int32)), .val (.int (6 : Int32))]) rfl) ?_
          show Ends p e below s _ _ _ T45 (mkF m 37 #[.val (.int cs), .val (.int rs), .val (.int (-1 : Int32)), .val (.int (6 : Int32))] [])
          refine go (fun _ => XS.goto X45.here hx rfl (pc0 := 37) (pc' := 4) rfl (hb hby d_prog_14_method_19_37) (by decide) (by decide)) ?_
          show Ends p e below s _ _ _ T45 (mkF m 4 #[.val (.int cs), .val (.int rs), .val (.int (-1 : Int32)), .val (.int (6 : Int32))] [])
          refine go (fun _ => XS.iloadN X45.here hx rfl (hb hby d_prog_14_method_19_4) rfl) ?_
          show Ends p e below s _ _ _ T45 (mkF m 5 #[.val (.int cs), .val (.int rs), .val (.int (-1 : Int32)), .val (.int (6 : Int32))] [(.int (6 : Int32))])
          refine go (fun _ => XT.bipushV X45.here hx rfl (8 : Int32) (hb hby d_prog_14_method_19_5) (by decide)) ?_
          show Ends p e below s _ _ _ T45 (mkF m 7 #[.val (.int cs), .val (.int rs), .val (.int (-1 : Int32)), .val (.int (6 : Int32))] [(.int (8 : Int32)), (.int (6 : Int32))])
          refine go (fun _ => XS.icmpNo X45.here hx rfl (hb hby d_prog_14_method_19_7) rfl (XT.ii_ge_f ((by decide) : (6 : Int32) < (8 : Int32)))) ?_
          show Ends p e below s _ _ _ T45 (mkF m 10 #[.val (.int cs), .val (.int rs), .val (.int (-1 : Int32)), .val (.int (6 : Int32))] [])
          refine go (fun _ => XS.iloadN X45.here hx rfl (hb hby d_prog_14_method_19_10) rfl) ?_
          show Ends p e below s _ _ _ T45 (mkF m 11 #[.val (.int cs), .val (.int rs), .val (.int (-1 : Int32)), .val (.int (6 : Int32))] [(.int (-1 : Int32))])
          refine go (fun _ => XS.ifNo X45.here hx rfl (hb hby d_prog_14_method_19_11) rfl (XT.i0_ge_f ((by decide) : (-1 : Int32) < (0 : Int32)))) ?_
          show Ends p e below s _ _ _ T45 (mkF m 14 #[.val (.int cs), .val (.int rs), .val (.int (-1 : Int32)), .val (.int (6 : Int32))] [])
          obtain ⟨T47, X47, e47, s47⟩ := getS2 X45 hx hZ hown (host := "") (Or.inl (hw _ (List.mem_of_getElem? (i := 4) rfl))) Via.refl e45 (Sta.ext O0 SC) (g := (mkF m 14 #[.val (.int cs), .val (.int rs), .val (.int (-1 : Int32)), .val (.int (6 : Int32))] [])) rfl (hb hby d_prog_14_method_19_14)
          refine go s47 ?_
          show Ends p e below s _ _ _ T47 (mkF m 17 #[.val (.int cs), .val (.int rs), .val (.int (-1 : Int32)), .val (.int (6 : Int32))] [(.ref aC)])
          refine go (fun _ => XS.iloadN X47.here hx rfl (hb hby d_prog_14_method_19_17) rfl) ?_
          show Ends p e below s _ _ _ T47 (mkF m 18 #[.val (.int cs), .val (.int rs), .val (.int (-1 : Int32)), .val (.int (6 : Int32))] [(.int (6 : Int32)), (.ref aC)])
          obtain ⟨c48, A48, -, S48, M48, H48, -⟩ := id F2
          have B48 := inb_of S48 (j := (6 : Int32)) (by decide)
          refine go (fun _ => X47.iaload hx (j := (6 : Int32)) (v := (.int (-1 : Int32))) (by rw [e47]; exact A48.1) (State.isArrayOf_alike hZ.alike A48.2.1) A48.2.2 B48 (H48.at B48 rfl) (g := (mkF m 18 #[.val (.int cs), .val (.int rs), .val (.int (-1 : Int32)), .val (.int (6 : Int32))] [(.int (6 : Int32)), (.ref aC)])) rfl rfl (hb hby d_prog_14_method_19_18) _) ?_
          show Ends p e below s _ _ _ T47 (mkF m 19 #[.val (.int cs), .val (.int rs), .val (.int (-1 : Int32)), .val (.int (6 : Int32))] [(.int (-1 : Int32))])
          refine go (fun _ => XS.iloadN X47.here hx rfl (hb hby d_prog_14_method_19_19) rfl) ?_
          show Ends p e below s _ _ _ T47 (mkF m 20 #[.val (.int cs), .val (.int rs), .val (.int (-1 : Int32)), .val (.int (6 : Int32))] [(.int cs), (.int (-1 : Int32))])
          refine go (fun _ => XS.icmpYes X47.here hx rfl (pc0 := 20) (pc' := 34) rfl (hb hby d_prog_14_method_19_20) rfl (XT.ii_ne_t ((by rw [← c20_31]; decide) : ¬ ((-1 : Int32) = cs))) (by decide) (by decide)) ?_
          show Ends p e below s _ _ _ T47 (mkF m 34 #[.val (.int cs), .val (.int rs), .val (.int (-1 : Int32)), .val (.int (6 : Int32))] [])
          refine go (fun _ => XT.iincV X47.here hx rfl (1 : Int32) (hb hby d_prog_14_method_19_34) (by decide) rfl (l' := #[.val (.int cs), .val (.int rs), .val (.int (-1 : Int32)), .val (.int (7 : Int32))]) rfl) ?_
          show Ends p e below s _ _ _ T47 (mkF m 37 #[.val (.int cs), .val (.int rs), .val (.int (-1 : Int32)), .val (.int (7 : Int32))] [])
          refine go (fun _ => XS.goto X47.here hx rfl (pc0 := 37) (pc' := 4) rfl (hb hby d_prog_14_method_19_37) (by decide) (by decide)) ?_
          show Ends p e below s _ _ _ T47 (mkF m 4 #[.val (.int cs), .val (.int rs), .val (.int (-1 : Int32)), .val (.int (7 : Int32))] [])
          refine go (fun _ => XS.iloadN X47.here hx rfl (hb hby d_prog_14_method_19_4) rfl) ?_
          show Ends p e below s _ _ _ T47 (mkF m 5 #[.val (.int cs), .val (.int rs), .val (.int (-1 : Int32)), .val (.int (7 : Int32))] [(.int (7 : Int32))])
          refine go (fun _ => XT.bipushV X47.here hx rfl (8 : Int32) (hb hby d_prog_14_method_19_5) (by decide)) ?_
          show Ends p e below s _ _ _ T47 (mkF m 7 #[.val (.int cs), .val (.int rs), .val (.int (-1 : Int32)), .val (.int (7 : Int32))] [(.int (8 : Int32)), (.int (7 : Int32))])
          refine go (fun _ => XS.icmpNo X47.here hx rfl (hb hby d_prog_14_method_19_7) rfl (XT.ii_ge_f ((by decide) : (7 : Int32) < (8 : Int32)))) ?_
          show Ends p e below s _ _ _ T47 (mkF m 10 #[.val (.int cs), .val (.int rs), .val (.int (-1 : Int32)), .val (.int (7 : Int32))] [])
          refine go (fun _ => XS.iloadN X47.here hx rfl (hb hby d_prog_14_method_19_10) rfl) ?_
          show Ends p e below s _ _ _ T47 (mkF m 11 #[.val (.int cs), .val (.int rs), .val (.int (-1 : Int32)), .val (.int (7 : Int32))] [(.int (-1 : Int32))])
          refine go (fun _ => XS.ifNo X47.here hx rfl (hb hby d_prog_14_method_19_11) rfl (XT.i0_ge_f ((by decide) : (-1 : Int32) < (0 : Int32)))) ?_
          show Ends p e below s _ _ _ T47 (mkF m 14 #[.val (.int cs), .val (.int rs), .val (.int (-1 : Int32)), .val (.int (7 : Int32))] [])
          obtain ⟨T49, X49, e49, s49⟩ := getS2 X47 hx hZ hown (host := "") (Or.inl (hw _ (List.mem_of_getElem? (i := 4) rfl))) Via.refl e47 (Sta.ext O0 SC) (g := (mkF m 14 #[.val (.int cs), .val (.int rs), .val (.int (-1 : Int32)), .val (.int (7 : Int32))] [])) rfl (hb hby d_prog_14_method_19_14)
          refine go s49 ?_
          show Ends p e below s _ _ _ T49 (mkF m 17 #[.val (.int cs), .val (.int rs), .val (.int (-1 : Int32)), .val (.int (7 : Int32))] [(.ref aC)])
          refine go (fun _ => XS.iloadN X49.here hx rfl (hb hby d_prog_14_method_19_17) rfl) ?_
          show Ends p e below s _ _ _ T49 (mkF m 18 #[.val (.int cs), .val (.int rs), .val (.int (-1 : Int32)), .val (.int (7 : Int32))] [(.int (7 : Int32)), (.ref aC)])
          obtain ⟨c50, A50, -, S50, M50, H50, -⟩ := id F2
          have B50 := inb_of S50 (j := (7 : Int32)) (by decide)
          refine go (fun _ => X49.iaload hx (j := (7 : Int32)) (v := (.int (1 : Int32))) (by rw [e49]; exact A50.1) (State.isArrayOf_alike hZ.alike A50.2.1) A50.2.2 B50 (H50.at B50 rfl) (g := (mkF m 18 #[.val (.int cs), .val (.int rs), .val (.int (-1 : Int32)), .val (.int (7 : Int32))] [(.int (7 : Int32)), (.ref aC)])) rfl rfl (hb hby d_prog_14_method_19_18) _) ?_
          show Ends p e below s _ _ _ T49 (mkF m 19 #[.val (.int cs), .val (.int rs), .val (.int (-1 : Int32)), .val (.int (7 : Int32))] [(.int (1 : Int32))])
          refine go (fun _ => XS.iloadN X49.here hx rfl (hb hby d_prog_14_method_19_19) rfl) ?_
          show Ends p e below s _ _ _ T49 (mkF m 20 #[.val (.int cs), .val (.int rs), .val (.int (-1 : Int32)), .val (.int (7 : Int32))] [(.int cs), (.int (1 : Int32))])
          refine go (fun _ => XS.icmpYes X49.here hx rfl (pc0 := 20) (pc' := 34) rfl (hb hby d_prog_14_method_19_20) rfl (XT.ii_ne_t c20_4) (by decide) (by decide)) ?_
          show Ends p e below s _ _ _ T49 (mkF m 34 #[.val (.int cs), .val (.int rs), .val (.int (-1 : Int32)), .val (.int (7 : Int32))] [])
          refine go (fun _ => XT.iincV X49.here hx rfl (1 : Int32) (hb hby d_prog_14_method_19_34) (by decide) rfl (l' := #[.val (.int cs), .val (.int rs), .val (.int (-1 : Int32)), .val (.int (8 : Int32))]) rfl) ?_
          show Ends p e below s _ _ _ T49 (mkF m 37 #[.val (.int cs), .val (.int rs), .val (.int (-1 : Int32)), .val (.int (8 : Int32))] [])
          refine go (fun _ => XS.goto X49.here hx rfl (pc0 := 37) (pc' := 4) rfl (hb hby d_prog_14_method_19_37) (by decide) (by decide)) ?_
          show Ends p e below s _ _ _ T49 (mkF m 4 #[.val (.int cs), .val (.int rs), .val (.int (-1 : Int32)), .val (.int (8 : Int32))] [])
          refine go (fun _ => XS.iloadN X49.here hx rfl (hb hby d_prog_14_method_19_4) rfl) ?_
          show Ends p e below s _ _ _ T49 (mkF m 5 #[.val (.int cs), .val (.int rs), .val (.int (-1 : Int32)), .val (.int (8 : Int32))] [(.int (8 : Int32))])
          refine go (fun _ => XT.bipushV X49.here hx rfl (8 : Int32) (hb hby d_prog_14_method_19_5) (by decide)) ?_
          show Ends p e below s _ _ _ T49 (mkF m 7 #[.val (.int cs), .val (.int rs), .val (.int (-1 : Int32)), .val (.int (8 : Int32))] [(.int (8 : Int32)), (.int (8 : Int32))])
          refine go (fun _ => XS.icmpYes X49.here hx rfl (pc0 := 7) (pc' := 40) rfl (hb hby d_prog_14_method_19_7) rfl (XT.ii_ge_t ((by decide) : ¬ ((8 : Int32) < (8 : Int32)))) (by decide) (by decide)) ?_
          show Ends p e below s _ _ _ T49 (mkF m 40 #[.val (.int cs), .val (.int rs), .val (.int (-1 : Int32)), .val (.int (8 : Int32))] [])
          refine go (fun _ => XS.iloadN X49.here hx rfl (hb hby d_prog_14_method_19_40) rfl) ?_
          show Ends p e below s _ _ _ T49 (mkF m 41 #[.val (.int cs), .val (.int rs), .val (.int (-1 : Int32)), .val (.int (8 : Int32))] [(.int (-1 : Int32))])
          exact endI X49 hx hlk hret (hb hby d_prog_14_method_19_41) e49 ⟨by have q0 : ¬ cs = (1 : Int32) := fun z => c20_4 z.symm; have q1 : cs = (0 : Int32) := (c20_31).symm; have q2 : ¬ rs = (1 : Int32) := fun z => c29_35 z.symm; have q3 : ¬ rs = (-1 : Int32) := fun z => c29_42 z.symm; simp [own_mv, q0, q1, q2, q3], (Fr.nil _), rfl⟩ (by decide) (by decide)
    · refine go (fun _ => XS.icmpYes X29.here hx rfl (pc0 := 20) (pc' := 34) rfl (hb hby d_prog_14_method_19_20) rfl (XT.ii_ne_t c20_31) (by decide) (by decide)) ?_
      show Ends p e below s _ _ _ T29 (mkF m 34 #[.val (.int cs), .val (.int rs), .val (.int (-1 : Int32)), .val (.int (1 : Int32))] [])
      refine go (fun _ => XT.iincV X29.here hx rfl (1 : Int32) (hb hby d_prog_14_method_19_34) (by decide) rfl (l' := #[.val (.int cs), .val (.int rs), .val (.int (-1 : Int32)), .val (.int (2 : Int32))]) rfl) ?_
      show Ends p e below s _ _ _ T29 (mkF m 37 #[.val (.int cs), .val (.int rs), .val (.int (-1 : Int32)), .val (.int (2 : Int32))] [])
      refine go (fun _ => XS.goto X29.here hx rfl (pc0 := 37) (pc' := 4) rfl (hb hby d_prog_14_method_19_37) (by decide) (by decide)) ?_
      show Ends p e below s _ _ _ T29 (mkF m 4 #[.val (.int cs), .val (.int rs), .val (.int (-1 : Int32)), .val (.int (2 : Int32))] [])
      refine go (fun _ => XS.iloadN X29.here hx rfl (hb hby d_prog_14_method_19_4) rfl) ?_
      show Ends p e below s _ _ _ T29 (mkF m 5 #[.val (.int cs), .val (.int rs), .val (.int (-1 : Int32)), .val (.int (2 : Int32))] [(.int (2 : Int32))])
      refine go (fun _ => XT.bipushV X29.here hx rfl (8 : Int32) (hb hby d_prog_14_method_19_5) (by decide)) ?_
      show Ends p e below s _ _ _ T29 (mkF m 7 #[.val (.int cs), .val (.int rs), .val (.int (-1 : Int32)), .val (.int (2 : Int32))] [(.int (8 : Int32)), (.int (2 : Int32))])
      refine go (fun _ => XS.icmpNo X29.here hx rfl (hb hby d_prog_14_method_19_7) rfl (XT.ii_ge_f ((by decide) : (2 : Int32) < (8 : Int32)))) ?_
      show Ends p e below s _ _ _ T29 (mkF m 10 #[.val (.int cs), .val (.int rs), .val (.int (-1 : Int32)), .val (.int (2 : Int32))] [])
      refine go (fun _ => XS.iloadN X29.here hx rfl (hb hby d_prog_14_method_19_10) rfl) ?_
      show Ends p e below s _ _ _ T29 (mkF m 11 #[.val (.int cs), .val (.int rs), .val (.int (-1 : Int32)), .val (.int (2 : Int32))] [(.int (-1 : Int32))])
      refine go (fun _ => XS.ifNo X29.here hx rfl (hb hby d_prog_14_method_19_11) rfl (XT.i0_ge_f ((by decide) : (-1 : Int32) < (0 : Int32)))) ?_
      show Ends p e below s _ _ _ T29 (mkF m 14 #[.val (.int cs), .val (.int rs), .val (.int (-1 : Int32)), .val (.int (2 : Int32))] [])
      obtain ⟨T51, X51, e51, s51⟩ := getS2 X29 hx hZ hown (host := "") (Or.inl (hw _ (List.mem_of_getElem? (i := 4) rfl))) Via.refl e29 (Sta.ext O0 SC) (g := (mkF m 14 #[.val (.int cs), .val (.int rs), .val (.int (-1 : Int32)), .val (.int (2 : Int32))] [])) rfl (hb hby d_prog_14_method_19_14)
      refine go s51 ?_
      show Ends p e below s _ _ _ T51 (mkF m 17 #[.val (.int cs), .val (.int rs), .val (.int (-1 : Int32)), .val (.int (2 : Int32))] [(.ref aC)])
      refine go (fun _ => XS.iloadN X51.here hx rfl (hb hby d_prog_14_method_19_17) rfl) ?_
      show Ends p e below s _ _ _ T51 (mkF m 18 #[.val (.int cs), .val (.int rs), .val (.int (-1 : Int32)), .val (.int (2 : Int32))] [(.int (2 : Int32)), (.ref aC)])
      obtain ⟨c52, A52, -, S52, M52, H52, -⟩ := id F2
      have B52 := inb_of S52 (j := (2 : Int32)) (by decide)
      refine go (fun _ => X51.iaload hx (j := (2 : Int32)) (v := (.int (-1 : Int32))) (by rw [e51]; exact A52.1) (State.isArrayOf_alike hZ.alike A52.2.1) A52.2.2 B52 (H52.at B52 rfl) (g := (mkF m 18 #[.val (.int cs), .val (.int rs), .val (.int (-1 : Int32)), .val (.int (2 : Int32))] [(.int (2 : Int32)), (.ref aC)])) rfl rfl (hb hby d_prog_14_method_19_18) _) ?_
      show Ends p e below s _ _ _ T51 (mkF m 19 #[.val (.int cs), .val (.int rs), .val (.int (-1 : Int32)), .val (.int (2 : Int32))] [(.int (-1 : Int32))])
      refine go (fun _ => XS.iloadN X51.here hx rfl (hb hby d_prog_14_method_19_19) rfl) ?_
      show Ends p e below s _ _ _ T51 (mkF m 20 #[.val (.int cs), .val (.int rs), .val (.int (-1 : Int32)), .val (.int (2 : Int32))] [(.int cs), (.int (-1 : Int32))])
      by_cases c20_53 : (-1 : Int32) = cs
      · refine go (fun _ => XS.icmpNo X51.here hx rfl (hb hby d_prog_14_method_19_20) rfl (XT.ii_ne_f c20_53)) ?_
        show Ends p e below s _ _ _ T51 (mkF m 23 #[.val (.int cs), .val (.int rs), .val (.int (-1 : Int32)), .val (.int (2 : Int32))] [])
        obtain ⟨T54, X54, e54, s54⟩ := getS2 X51 hx hZ hown (host := "") (Or.inl (hw _ (List.mem_of_getElem? (i := 6) rfl))) Via.refl e51 (Sta.ext O0 SR) (g := (mkF m 23 #[.val (.int cs), .val (.int rs), .val (.int (-1 : Int32)), .val (.int (2 : Int32))] [])) rfl (hb hby d_prog_14_method_19_23)
        refine go s54 ?_
        show Ends p e below s _ _ _ T54 (mkF m 26 #[.val (.int cs), .val (.int rs), .val (.int (-1 : Int32)), .val (.int (2 : Int32))] [(.ref aR)])
        refine go (fun _ => XS.iloadN X54.here hx rfl (hb hby d_prog_14_method_19_26) rfl) ?_
        show Ends p e below s _ _ _ T54 (mkF m 27 #[.val (.int cs), .val (.int rs), .val (.int (-1 : Int32)), .val (.int (2 : Int32))] [(.int (2 : Int32)), (.ref aR)])
        have F55 := (Arv.ext VR O0)
        obtain ⟨c56, A56, -, S56, M56, H56, -⟩ := id F55
        have B56 := inb_of S56 (j := (2 : Int32)) (by decide)
        refine go (fun _ => X54.iaload hx (j := (2 : Int32)) (v := (.int (0 : Int32))) (by rw [e54]; exact A56.1) (State.isArrayOf_alike hZ.alike A56.2.1) A56.2.2 B56 (H56.at B56 rfl) (g := (mkF m 27 #[.val (.int cs), .val (.int rs), .val (.int (-1 : Int32)), .val (.int (2 : Int32))] [(.int (2 : Int32)), (.ref aR)])) rfl rfl (hb hby d_prog_14_method_19_27) _) ?_
        show Ends p e below s _ _ _ T54 (mkF m 28 #[.val (.int cs), .val (.int rs), .val (.int (-1 : Int32)), .val (.int (2 : Int32))] [(.int (0 : Int32))])
        refine go (fun _ => XS.iloadN X54.here hx rfl (hb hby d_prog_14_method_19_28) rfl) ?_
        show Ends p e below s _ _ _ T54 (mkF m 29 #[.val (.int cs), .val (.int rs), .val (.int (-1 : Int32)), .val (.int (2 : Int32))] [(.int rs), (.int (0 : Int32))])
        by_cases c29_57 : (0 : Int32) = rs
        · refine go (fun _ => XS.icmpNo X54.here hx rfl (hb hby d_prog_14_method_19_29) rfl (XT.ii_ne_f c29_57)) ?_
          show Ends p e below s _ _ _ T54 (mkF m 32 #[.val (.int cs), .val (.int rs), .val (.int (-1 : Int32)), .val (.int (2 : Int32))] [])
          refine go (fun _ => XS.iloadN X54.here hx rfl (hb hby d_prog_14_method_19_32) rfl) ?_
          show Ends p e below s _ _ _ T54 (mkF m 33 #[.val (.int cs), .val (.int rs), .val (.int (-1 : Int32)), .val (.int (2 : Int32))] [(.int (2 : Int32))])
          refine go (fun _ => XS.istoreN X54.here hx rfl (hb hby d_prog_14_method_19_33) rfl (l' := #[.val (.int cs), .val (.int rs), .val (.int (2 : Int32)), .val (.int (2 : Int32))]) rfl) ?_
          show Ends p e below s _ _ _ T54 (mkF m 34 #[.val (.int cs), .val (.int rs), .val (.int (2 : Int32)), .val (.int (2 : Int32))] [])
          refine go (fun _ => XT.iincV X54.here hx rfl (1 : Int32) (hb hby d_prog_14_method_19_34) (by decide) rfl (l' := #[.val (.int cs), .val (.int rs), .val (.int (2 : Int32)), .val (.int (3 : Int32))]) rfl) ?_
          show Ends p e below s _ _ _ T54 (mkF m 37 #[.val (.int cs), .val (.int rs), .val (.int (2 : Int32)), .val (.int (3 : Int32))] [])
          refine go (fun _ => XS.goto X54.here hx rfl (pc0 := 37) (pc' := 4) rfl (hb hby d_prog_14_method_19_37) (by decide) (by decide)) ?_
          show Ends p e below s _ _ _ T54 (mkF m 4 #[.val (.int cs), .val (.int rs), .val (.int (2 : Int32)), .val (.int (3 : Int32))] [])
          refine go (fun _ => XS.iloadN X54.here hx rfl (hb hby d_prog_14_method_19_4) rfl) ?_
          show Ends p e below s _ _ _ T54 (mkF m 5 #[.val (.int cs), .val (.int rs), .val (.int (2 : Int32)), .val (.int (3 : Int32))] [(.int (3 : Int32))])
          refine go (fun _ => XT.bipushV X54.here hx rfl (8 : Int32) (hb hby d_prog_14_method_19_5) (by decide)) ?_
          show Ends p e below s _ _ _ T54 (mkF m 7 #[.val (.int cs), .val (.int rs), .val (.int (2 : Int32)), .val (.int (3 : Int32))] [(.int (8 : Int32)), (.int (3 : Int32))])
          refine go (fun _ => XS.icmpNo X54.here hx rfl (hb hby d_prog_14_method_19_7) rfl (XT.ii_ge_f ((by decide) : (3 : Int32) < (8 : Int32)))) ?_
          show Ends p e below s _ _ _ T54 (mkF m 10 #[.val (.int cs), .val (.int rs), .val (.int (2 : Int32)), .val (.int (3 : Int32))] [])
          refine go (fun _ => XS.iloadN X54.here hx rfl (hb hby d_prog_14_method_19_10) rfl) ?_
          show Ends p e below s _ _ _ T54 (mkF m 11 #[.val (.int cs), .val (.int rs), .val (.int (2 : Int32)), .val (.int (3 : Int32))] [(.int (2 : Int32))])
          refine go (fun _ => XS.ifYes X54.here hx rfl (pc0 := 11) (pc' := 40) rfl (hb hby d_prog_14_method_19_11) rfl (XT.i0_ge_t ((by decide) : ¬ ((2 : Int32) < (0 : Int32)))) (by decide) (by decide)) ?_
          show Ends p e below s _ _ _ T54 (mkF m 40 #[.val (.int cs), .val (.int rs), .val (.int (2 : Int32)), .val (.int (3 : Int32))] [])
          refine go (fun _ => XS.iloadN X54.here hx rfl (hb hby d_prog_14_method_19_40) rfl) ?_
          show Ends p e below s _ _ _ T54 (mkF m 41 #[.val (.int cs), .val (.int rs), .val (.int (2 : Int32)), .val (.int (3 : Int32))] [(.int (2 : Int32))])
          exact endI X54 hx hlk hret (hb hby d_prog_14_method_19_41) e54 ⟨by have q0 : ¬ cs = (1 : Int32) := fun z => c20_4 z.symm; have q1 : ¬ cs = (0 : Int32) := fun z => c20_31 z.symm; have q2 : cs = (-1 : Int32) := (c20_53).symm; have q3 : rs = (0 : Int32) := (c29_57).symm; simp [own_mv, q0, q1, q2, q3], (Fr.nil _), rfl⟩ (by decide) (by decide)
        · refine go (fun _ => XS.icmpYes X54.here hx rfl (pc0 := 29) (pc' := 34) rfl (hb hby d_prog_14_method_19_29) rfl (XT.ii_ne_t c29_57) (by decide) (by decide)) ?_
          show Ends p e below s _ _ _ T54 (mkF m 34 #[.val (.int cs), .val (.int rs), .val (.int (-1 : Int32)), .val (.int (2 : Int32))] [])
          refine go (fun _ => XT.iincV X54.here hx rfl (1 : Int32) (hb hby d_prog_14_method_19_34) (by decide) rfl (l' := #[.val (.int cs), .val (.int rs), .val (.int (-1 : Int32)), .val (.int (3 : Int32))]) rfl) ?_
          show Ends p e below s _ _ _ T54 (mkF m 37 #[.val (.int cs), .val (.int rs), .val (.int (-1 : Int32)), .val (.int (3 : Int32))] [])
          refine go (fun _ => XS.goto X54.here hx rfl (pc0 := 37) (pc' := 4) rfl (hb hby d_prog_14_method_19_37) (by decide) (by decide)) ?_
          show Ends p e below s _ _ _ T54 (mkF m 4 #[.val (.int cs), .val (.int rs), .val (.int (-1 : Int32)), .val (.int (3 : Int32))] [])
          refine go (fun _ => XS.iloadN X54.here hx rfl (hb hby d_prog_14_method_19_4) rfl) ?_
          show Ends p e below s _ _ _ T54 (mkF m 5 #[.val (.int cs), .val (.int rs), .val (.int (-1 : Int32)), .val (.int (3 : Int32))] [(.int (3 : Int32))])
          refine go (fun _ => XT.bipushV X54.here hx rfl (8 : Int32) (hb hby d_prog_14_method_19_5) (by decide)) ?_
          show Ends p e below s _ _ _ T54 (mkF m 7 #[.val (.int cs), .val (.int rs), .val (.int (-1 : Int32)), .val (.int (3 : Int32))] [(.int (8 : Int32)), (.int (3 : Int32))])
          refine go (fun _ => XS.icmpNo X54.here hx rfl (hb hby d_prog_14_method_19_7) rfl (XT.ii_ge_f ((by decide) : (3 : Int32) < (8 : Int32)))) ?_
          show Ends p e below s _ _ _ T54 (mkF m 10 #[.val (.int cs), .val (.int rs), .val (.int (-1 : Int32)), .val (.int (3 : Int32))] [])
          refine go (fun _ => XS.iloadN X54.here hx rfl (hb hby d_prog_14_method_19_10) rfl) ?_
          show Ends p e below s _ _ _ T54 (mkF m 11 #[.val (.int cs), .val (.int rs), .val (.int (-1 : Int32)), .val (.int (3 : Int32))] [(.int (-1 : Int32))])
          refine go (fun _ => XS.ifNo X54.here hx rfl (hb hby d_prog_14_method_19_11) rfl (XT.i0_ge_f ((by decide) : (-1 : Int32) < (0 : Int32)))) ?_
          show Ends p e below s _ _ _ T54 (mkF m 14 #[.val (.int cs), .val (.int rs), .val (.int (-1 : Int32)), .val (.int (3 : Int32))] [])
          obtain ⟨T58, X58, e58, s58⟩ := getS2 X54 hx hZ hown (host := "") (Or.inl (hw _ (List.mem_of_getElem? (i := 4) rfl))) Via.refl e54 (Sta.ext O0 SC) (g := (mkF m 14 #[.val (.int cs), .val (.int rs), .val (.int (-1 : Int32)), .val (.int (3 : Int32))] [])) rfl (hb hby d_prog_14_method_19_14)
          refine go s58 ?_
          show Ends p e below s _ _ _ T58 (mkF m 17 #[.val (.int cs), .val (.int rs), .val (.int (-1 : Int32)), .val (.int (3 : Int32))] [(.ref aC)])
          refine go (fun _ => XS.iloadN X58.here hx rfl (hb hby d_prog_14_method_19_17) rfl) ?_
          show Ends p e below s _ _ _ T58 (mkF m 18 #[.val (.int cs), .val (.int rs), .val (.int (-1 : Int32)), .val (.int (3 : Int32))] [(.int (3 : Int32)), (.ref aC)])
          obtain ⟨c59, A59, -, S59, M59, H59, -⟩ := id F2
          have B59 := inb_of S59 (j := (3 : Int32)) (by decide)
          refine go (fun _ => X58.iaload hx (j := (3 : Int32)) (v := (.int (0 : Int32))) (by rw [e58]; exact A59.1) (State.isArrayOf_alike hZ.alike A59.2.1) A59.2.2 B59 (H59.at B59 rfl) (g := (mkF m 18 #[.val (.int cs), .val (.int rs), .val (.int (-1 : Int32)), .val (.int (3 : Int32))] [(.int (3 : Int32)), (.ref aC)])) rfl rfl (hb hby d_prog_14_method_19_18) _) ?_
          show Ends p e below s _ _ _ T58 (mkF m 19 #[.val (.int cs), .val (.int rs), .val (.int (-1 : Int32)), .val (.int (3 : Int32))] [(.int (0 : Int32))])
          refine go (fun _ => XS.iloadN X58.here hx rfl (hb hby d_prog_14_method_19_19) rfl) ?_
          show Ends p e below s _ _ _ T58 (mkF m 20 #[.val (.int cs), .val (.int rs), .val (.int (-1 : Int32)), .val (.int (3 : Int32))] [(.int cs), (.int (0 : Int32))])
          refine go (fun _ => XS.icmpYes X58.here hx rfl (pc0 := 20) (pc' := 34) rfl (hb hby d_prog_14_method_19_20) rfl (XT.ii_ne_t c20_31) (by decide) (by decide)) ?_
          show Ends p e below s _ _ _ T58 (mkF m 34 #[.val (.int cs), .val (.int rs), .val (.int (-1 : Int32)), .val (.int (3 : Int32))] [])
          refine go (fun _ => XT.iincV X58.here hx rfl (1 : Int32) (hb hby d_prog_14_method_19_34) (by decide) rfl (l' := #[.val (.int cs), .val (.int rs), .val (.int (-1 : Int32)), .val (.int (4 : Int32))]) rfl) ?_
          show Ends p e below s _ _ _ T58 (mkF m 37 #[.val (.int cs), .val (.int rs), .val (.int (-1 : Int32)), .val (.int (4 : Int32))] [])
          refine go (fun _ => XS.goto X58.here hx rfl (pc0 := 37) (pc' := 4) rfl (hb hby d_prog_14_method_19_37) (by decide) (by decide)) ?_
          show Ends p e below s _ _ _ T58 (mkF m 4 #[.val (.int cs), .val (.int rs), .val (.int (-1 : Int32)), .val (.int (4 : Int32))] [])
          refine go (fun _ => XS.iloadN X58.here hx rfl (hb hby d_prog_14_method_19_4) rfl) ?_
          show Ends p e below s _ _ _ T58 (mkF m 5 #[.val (.int cs), .val (.int rs), .val (.int (-1 : Int32)), .val (.int (4 : Int32))] [(.int (4 : Int32))])
          refine go (fun _ => XT.bipushV X58.here hx rfl (8 : Int32) (hb hby d_prog_14_method_19_5) (by decide)) ?_
          show Ends p e below s _ _ _ T58 (mkF m 7 #[.val (.int cs), .val (.int rs), .val (.int (-1 : Int32)), .val (.int (4 : Int32))] [(.int (8 : Int32)), (.int (4 : Int32))])
          refine go (fun _ => XS.icmpNo X58.here hx rfl (hb hby d_prog_14_method_19_7) rfl (XT.ii_ge_f ((by decide) : (4 : Int32) < (8 : Int32)))) ?_
          show Ends p e below s _ _ _ T58 (mkF m 10 #[.val (.int cs), .val (.int rs), .val (.int (-1 : Int32)), .val (.int (4 : Int32))] [])
          refine go (fun _ => XS.iloadN X58.here hx rfl (hb hby d_prog_14_method_19_10) rfl) ?_
          show Ends p e below s _ _ _ T58 (mkF m 11 #[.val (.int cs), .val (.int rs), .val (.int (-1 : Int32)), .val (.int (4 : Int32))] [(.int (-1 : Int32))])
          refine go (fun _ => XS.ifNo X58.here hx rfl (hb hby d_prog_14_method_19_11) rfl (XT.i0_ge_f ((by decide) : (-1 : Int32) < (0 : Int32)))) ?_
          show Ends p e below s _ _ _ T58 (mkF m 14 #[.val (.int cs), .val (.int rs), .val (.int (-1 : Int32)), .val (.int (4 : Int32))] [])
          obtain ⟨T60, X60, e60, s60⟩ := getS2 X58 hx hZ hown (host := "") (Or.inl (hw _ (List.mem_of_getElem? (i := 4) rfl))) Via.refl e58 (Sta.ext O0 SC) (g := (mkF m 14 #[.val (.int cs), .val (.int rs), .val (.int (-1 : Int32)), .val (.int (4 : Int32))] [])) rfl (hb hby d_prog_14_method_19_14)
          refine go s60 ?_
          show Ends p e below s _ _ _ T60 (mkF m 17 #[.val (.int cs), .val (.int rs), .val (.int (-1 : Int32)), .val (.int (4 : Int32))] [(.ref aC)])
          refine go (fun _ => XS.iloadN X60.here hx rfl (hb hby d_prog_14_method_19_17) rfl) ?_
          show Ends p e below s _ _ _ T60 (mkF m 18 #[.val (.int cs), .val (.int rs), .val (.int (-1 : Int32)), .val (.int (4 : Int32))] [(.int (4 : Int32)), (.ref aC)])
          obtain ⟨c61, A61, -, S61, M61, H61, -⟩ := id F2
          have B61 := inb_of S61 (j := (4 : Int32)) (by decide)
          refine go (fun _ => X60.iaload hx (j := (4 : Int32)) (v := (.int (1 : Int32))) (by rw [e60]; exact A61.1) (State.isArrayOf_alike hZ.alike A61.2.1) A61.2.2 B61 (H61.at B61 rfl) (g := (mkF m 18 #[.val (.int cs), .val (.int rs), .val (.int (-1 : Int32)), .val (.int (4 : Int32))] [(.int (4 : Int32)), (.ref aC)])) rfl rfl (hb hby d_prog_14_method_19_18) _) ?_
          show Ends p e below s _ _ _ T60 (mkF m 19 #[.val (.int cs), .val (.int rs), .val (.int (-1 : Int32)), .val (.int (4 : Int32))] [(.int (1 : Int32))])
          refine go (fun _ => XS.iloadN X60.here hx rfl (hb hby d_prog_14_method_19_19) rfl) ?_
          show Ends p e below s _ _ _ T60 (mkF m 20 #[.val (.int cs), .val (.int rs), .val (.int (-1 : Int32)), .val (.int (4 : Int32))] [(.int cs), (.int (1 : Int32))])
          refine go (fun _ => XS.icmpYes X60.here hx rfl (pc0 := 20) (pc' := 34) rfl (hb hby d_prog_14_method_19_20) rfl (XT.ii_ne_t c20_4) (by decide) (by decide)) ?_
          show Ends p e below s _ _ _ T60 (mkF m 34 #[.val (.int cs), .val (.int rs), .val (.int (-1 : Int32)), .val (.int (4 : Int32))] [])
          refine go (fun _ => XT.iincV X60.here hx rfl (1 : Int32) (hb hby d_prog_14_method_19_34) (by decide) rfl (l' := #[.val (.int cs), .val (.int rs), .val (.int (-1 : Int32)), .val (.int (5 : Int32))]) rfl) ?_
          show Ends p e below s _ _ _ T60 (mkF m 37 #[.val (.int cs), .val (.int rs), .val (.int (-1 : Int32)), .val (.int (5 : Int32))] [])
          refine go (fun _ => XS.goto X60.here hx rfl (pc0 := 37) (pc' := 4) rfl (hb hby d_prog_14_method_19_37) (by decide) (by decide)) ?_
          show Ends p e below s _ _ _ T60 (mkF m 4 #[.val (.int cs), .val (.int rs), .val (.int (-1 : Int32)), .val (.int (5 : Int32))] [])
          refine go (fun _ => XS.iloadN X60.here hx rfl (hb hby d_prog_14_method_19_4) rfl) ?_
          show Ends p e below s _ _ _ T60 (mkF m 5 #[.val (.int cs), .val (.int rs), .val (.int (-1 : Int32)), .val (.int (5 : Int32))] [(.int (5 : Int32))])
          refine go (fun _ => XT.bipushV X60.here hx rfl (8 : Int32) (hb hby d_prog_14_method_19_5) (by decide)) ?_
          show Ends p e below s _ _ _ T60 (mkF m 7 #[.val (.int cs), .val (.int rs), .val (.int (-1 : Int32)), .val (.int (5 : Int32))] [(.int (8 : Int32)), (.int (5 : Int32))])
          refine go (fun _ => XS.icmpNo X60.here hx rfl (hb hby d_prog_14_method_19_7) rfl (XT.ii_ge_f ((by decide) : (5 : Int32) < (8 : Int32)))) ?_
          show Ends p e below s _ _ _ T60 (mkF m 10 #[.val (.int cs), .val (.int rs), .val (.int (-1 : Int32)), .val (.int (5 : Int32))] [])
          refine go (fun _ => XS.iloadN X60.here hx rfl (hb hby d_prog_14_method_19_10) rfl) ?_
          show Ends p e below s _ _ _ T60 (mkF m 11 #[.val (.int cs), .val (.int rs), .val (.int (-1 : Int32)), .val (.int (5 : Int32))] [(.int (-1 : Int32))])
          refine go (fun _ => XS.ifNo X60.here hx rfl (hb hby d_prog_14_method_19_11) rfl (XT.i0_ge_f ((by decide) : (-1 : Int32) < (0 : Int32)))) ?_
          show Ends p e below s _ _ _ T60 (mkF m 14 #[.val (.int cs), .val (.int rs), .val (.int (-1 : Int32)), .val (.int (5 : Int32))] [])
          obtain ⟨T62, X62, e62, s62⟩ := getS2 X60 hx hZ hown (host := "") (Or.inl (hw _ (List.mem_of_getElem? (i := 4) rfl))) Via.refl e60 (Sta.ext O0 SC) (g := (mkF m 14 #[.val (.int cs), .val (.int rs), .val (.int (-1 : Int32)), .val (.int (5 : Int32))] [])) rfl (hb hby d_prog_14_method_19_14)
          refine go s62 ?_
          show Ends p e below s _ _ _ T62 (mkF m 17 #[.val (.int cs), .val (.int rs), .val (.int (-1 : Int32)), .val (.int (5 : Int32))] [(.ref aC)])
          refine go (fun _ => XS.iloadN X62.here hx rfl (hb hby d_prog_14_method_19_17) rfl) ?_
          show Ends p e below s _ _ _ T62 (mkF m 18 #[.val (.int cs), .val (.int rs), .val (.int (-1 : Int32)), .val (.int (5 : Int32))] [(.int (5 : Int32)), (.ref aC)])
          obtain ⟨c63, A63, -, S63, M63, H63, -⟩ := id F2
          have B63 := inb_of S63 (j := (5 : Int32)) (by decide)
          refine go (fun _ => X62.iaload hx (j := (5 : Int32)) (v := (.int (-1 : Int32))) (by rw [e62]; exact A63.1) (State.isArrayOf_alike hZ.alike A63.2.1) A63.2.2 B63 (H63.at B63 rfl) (g := (mkF m 18 #[.val (.int cs), .val (.int rs), .val (.int (-1 : Int32)), .val (.int (5 : Int32))] [(.int (5 : Int32)), (.ref aC)])) rfl rfl (hb hby d_prog_14_method_19_18) _) ?_
          show Ends p e below s _ _ _ T62 (mkF m 19 #[.val (.int cs), .val (.int rs), .val (.int (-1 : Int32)), .val (.int (5 : Int32))] [(.int (-1 : Int32))])
          refine go (fun _ => XS.iloadN X62.here hx rfl (hb hby d_prog_14_method_19_19) rfl) ?_
          show Ends p e below s _ _ _ T62 (mkF m 20 #[.val (.int cs), .val (.int rs), .val (.int (-1 : Int32)), .val (.int (5 : Int32))] [(.int cs), (.int (-1 : Int32))])
          refine go (fun _ => XS.icmpNo X62.here hx rfl (hb hby d_prog_14_method_19_20) rfl (XT.ii_ne_f c20_53)) ?_
          show Ends p e below s _ _ _ T62 (mkF m 23 #[.val (.int cs), .val (.int rs), .val (.int (-1 : Int32)), .val (.int (5 : Int32))] [])
          obtain ⟨T64, X64, e64, s64⟩ := getS2 X62 hx hZ hown (host := "") (Or.inl (hw _ (List.mem_of_getElem? (i := 6) rfl))) Via.refl e62 (Sta.ext O0 SR) (g := (mkF m 23 #[.val (.int cs), .val (.int rs), .val (.int (-1 : Int32)), .val (.int (5 : Int32))] [])) rfl (hb hby d_prog_14_method_19_23)
          refine go s64 ?_
          show Ends p e below s _ _ _ T64 (mkF m 26 #[.val (.int cs), .val (.int rs), .val (.int (-1 : Int32)), .val (.int (5 : Int32))] [(.ref aR)])
          refine go (fun _ => XS.iloadN X64.here hx rfl (hb hby d_prog_14_method_19_26) rfl) ?_
          show Ends p e below s _ _ _ T64 (mkF m 27 #[.val (.int cs), .val (.int rs), .val (.int (-1 : Int32)), .val (.int (5 : Int32))] [(.int (5 : Int32)), (.ref aR)])
          obtain ⟨c65, A65, -, S65, M65, H65, -⟩ := id F55
          have B65 := inb_of S65 (j := (5 : Int32)) (by decide)
          refine go (fun _ => X64.iaload hx (j := (5 : Int32)) (v := (.int (1 : Int32))) (by rw [e64]; exact A65.1) (State.isArrayOf_alike hZ.alike A65.2.1) A65.2.2 B65 (H65.at B65 rfl) (g := (mkF m 27 #[.val (.int cs), .val (.int rs), .val (.int (-1 : Int32)), .val (.int (5 : Int32))] [(.int (5 : Int32)), (.ref aR)])) rfl rfl (hb hby d_prog_14_method_19_27) _) ?_
          show Ends p e below s _ _ _ T64 (mkF m 28 #[.val (.int cs), .val (.int rs), .val (.int (-1 : Int32)), .val (.int (5 : Int32))] [(.int (1 : Int32))])
          refine go (fun _ => XS.iloadN X64.here hx rfl (hb hby d_prog_14_method_19_28) rfl) ?_
          show Ends p e below s _ _ _ T64 (mkF m 29 #[.val (.int cs), .val (.int rs), .val (.int (-1 : Int32)), .val (.int (5 : Int32))] [(.int rs), (.int (1 : Int32))])
          by_cases c29_66 : (1 : Int32) = rs
          · refine go (fun _ => XS.icmpNo X64.here hx rfl (hb hby d_prog_14_method_19_29) rfl (XT.ii_ne_f c29_66)) ?_
            show Ends p e below s _ _ _ T64 (mkF m 32 #[.val (.int cs), .val (.int rs), .val (.int (-1 : Int32)), .val (.int (5 : Int32))] [])
            refine go (fun _ => XS.iloadN X64.here hx rfl (hb hby d_prog_14_method_19_32) rfl) ?_
            show Ends p e below s _ _ _ T64 (mkF m 33 #[.val (.int cs), .val (.int rs), .val (.int (-1 : Int32)), .val (.int (5 : Int32))] [(.int (5 : Int32))])
            refine go (fun _ => XS.istoreN X64.here hx rfl (hb hby d_prog_14_method_19_33) rfl (l' := #[.val (.int cs), .val (.int rs), .val (.int (5 : Int32)), .val (.int (5 : Int32))]) rfl) ?_
            show Ends p e below s _ _ _ T64 (mkF m 34 #[.val (.int cs), .val (.int rs), .val (.int (5 : Int32)), .val (.int (5 : Int32))] [])
            refine go (fun _ => XT.iincV X64.here hx rfl (1 : Int32) (hb hby d_prog_14_method_19_34) (by decide) rfl (l' := #[.val (.int cs), .val (.int rs), .val (.int (5 : Int32)), .val (.int (6 : Int32))]) rfl) ?_
            show Ends p e below s _ _ _ T64 (mkF m 37 #[.val (.int cs), .val (.int rs), .val (.int (5 : Int32)), .val (.int (6 : Int32))] [])
            refine go (fun _ => XS.goto X64.here hx rfl (pc0 := 37) (pc' := 4) rfl (hb hby d_prog_14_method_19_37) (by decide) (by decide)) ?_
            show Ends p e below s _ _ _ T64 (mkF m 4 #[.val (.int cs), .val (.int rs), .val (.int (5 : Int32)), .val (.int (6 : Int32))] [])
            refine go (fun _ => XS.iloadN X64.here hx rfl (hb hby d_prog_14_method_19_4) rfl) ?_
            show Ends p e below s _ _ _ T64 (mkF m 5 #[.val (.int cs), .val (.int rs), .val (.int (5 : Int32)), .val (.int (6 : Int32))] [(.int (6 : Int32))])
            refine go (fun _ => XT.bipushV X64.here hx rfl (8 : Int32) (hb hby d_prog_14_method_19_5) (by decide)) ?_
            show Ends p e below s _ _ _ T64 (mkF m 7 #[.val (.int cs), .val (.int rs), .val (.int (5 : Int32)), .val (.int (6 : Int32))] [(.int (8 : Int32)), (.int (6 : Int32))])
            refine go (fun _ => XS.icmpNo X64.here hx rfl (hb hby d_prog_14_method_19_7) rfl (XT.ii_ge_f ((by decide) : (6 : Int32) < (8 : Int32)))) ?_
            show Ends p e below s _ _ _ T64 (mkF m 10 #[.val (.int cs), .val (.int rs), .val (.int (5 : Int32)), .val (.int (6 : Int32))] [])
            refine go (fun _ => XS.iloadN X64.here hx rfl (hb hby d_prog_14_method_19_10) rfl) ?_
            show Ends p e below s _ _ _ T64 (mkF m 11 #[.val (.int cs), .val (.int rs), .val (.int (5 : Int32)), .val (.int (6 : Int32))] [(.int (5 : Int32))])
            refine go (fun _ => XS.ifYes X64.here hx rfl (pc0 := 11) (pc' := 40) rfl (hb hby d_prog_14_method_19_11) rfl (XT.i0_ge_t ((by decide) : ¬ ((5 : Int32) < (0 : Int32)))) (by decide) (by decide)) ?_
            show Ends p e below s _ _ _ T64 (mkF m 40 #[.val (.int cs), .val (.int rs), .val (.int (5 : Int32)), .val (.int (6 : Int32))] [])
            refine go (fun _ => XS.iloadN X64.here hx rfl (hb hby d_prog_14_method_19_40) rfl) ?_
            show Ends p e below s _ _ _ T64 (mkF m 41 #[.val (.int cs), .val (.int rs), .val (.int (5 : Int32)), .val (.int (6 : Int32))] [(.int (5 : Int32))])
            exact endI X64 hx hlk hret (hb hby d_prog_14_method_19_41) e64 ⟨by have q0 : ¬ cs = (1 : Int32) := fun z => c20_4 z.symm; have q1 : ¬ cs = (0 : Int32) := fun z => c20_31 z.symm; have q2 : cs = (-1 : Int32) := (c20_53).symm; have q3 : ¬ rs = (0 : Int32) := fun z => c29_57 z.symm; have q4 : rs = (1 : Int32) := (c29_66).symm; simp [own_mv, q0, q1, q2, q3, q4], (Fr.nil _), rfl⟩ (by decide) (by decide)
          · refine go (fun _ => XS.icmpYes X64.here hx rfl (pc0 := 29) (pc' := 34) rfl (hb hby d_prog_14_method_19_29) rfl (XT.ii_ne_t c29_66) (by decide) (by decide)) ?_
            show Ends p e below s _ _ _ T64 (mkF m 34 #[.val (.int cs), .val (.int rs), .val (.int (-1 : Int32)), .val (.int (5 : Int32))] [])
            refine go (fun _ => XT.iincV X64.here hx rfl (1 : Int32) (hb hby d_prog_14_method_19_34) (by decide) rfl (l' := #[.val (.int cs), .val (.int rs), .val (.int (-1 : Int32)), .val (.int (6 : Int32))]) rfl) ?_
            show Ends p e below s _ _ _ T64 (mkF m 37 #[.val (.int cs), .val (.int rs), .val (.int (-1 : Int32)), .val (.int (6 : Int32))] [])
            refine go (fun _ => XS.goto X64.here hx rfl (pc0 := 37) (pc' := 4) rfl (hb hby d_prog_14_method_19_37) (by decide) (by decide)) ?_
            show Ends p e below s _ _ _ T64 (mkF m 4 #[.val (.int cs), .val (.int rs), .val (.int (-1 : Int32)), .val (.int (6 : Int32))] [])
            refine go (fun _ => XS.iloadN X64.here hx rfl (hb hby d_prog_14_method_19_4) rfl) ?_
            show Ends p e below s _ _ _ T64 (mkF m 5 #[.val (.int cs), .val (.int rs), .val (.int (-1 : Int32)), .val (.int (6 : Int32))] [(.int (6 : Int32))])
            refine go (fun _ => XT.bipushV X64.here hx rfl (8 : Int32) (hb hby d_prog_14_method_19_5) (by decide)) ?_
            show Ends p e below s _ _ _ T64 (mkF m 7 #[.val (.int cs), .val (.int rs), .val (.int (-1 : Int32)), .val (.int (6 : Int32))] [(.int (8 : Int32)), (.int (6 : Int32))])
            refine go (fun _ => XS.icmpNo X64.here hx rfl (hb hby d_prog_14_method_19_7) rfl (XT.ii_ge_f ((by decide) : (6 : Int32) < (8 : Int32)))) ?_
            show Ends p e below s _ _ _ T64 (mkF m 10 #[.val (.int cs), .val (.int rs), .val (.int (-1 : Int32)), .val (.int (6 : Int32))] [])
            refine go (fun _ => XS.iloadN X64.here hx rfl (hb hby d_prog_14_method_19_10) rfl) ?_
            show Ends p e below s _ _ _ T64 (mkF m 11 #[.val (.int cs), .val (.int rs), .val (.int (-1 : Int32)), .val (.int (6 : Int32))] [(.int (-1 : Int32))])
            refine go (fun _ => XS.ifNo X64.here hx rfl (hb hby d_prog_14_method_19_11) rfl (XT.i0_ge_f ((by decide) : (-1 : Int32) < (0 : Int32)))) ?_
            show Ends p e below s _ _ _ T64 (mkF m 14 #[.val (.int cs), .val (.int rs), .val (.int (-1 : Int32)), .val (.int (6 : Int32))] [])
            obtain ⟨T67, X67, e67, s67⟩ := getS2 X64 hx hZ hown (host := "") (Or.inl (hw _ (List.mem_of_getElem? (i := 4) rfl))) Via.refl e64 (Sta.ext O0 SC) (g := (mkF m 14 #[.val (.int cs), .val (.int rs), .val (.int (-1 : Int32)), .val (.int (6 : Int32))] [])) rfl (hb hby d_prog_14_method_19_14)
            refine go s67 ?_
            show Ends p e below s _ _ _ T67 (mkF m 17 #[.val (.int cs), .val (.int rs), .val (.int (-1 : Int32)), .val (.int (6 : Int32))] [(.ref aC)])
            refine go (fun _ => XS.iloadN X67.here hx rfl (hb hby d_prog_14_method_19_17) rfl) ?_
            show Ends p e below s _ _ _ T67 (mkF m 18 #[.val (.int cs), .val (.int rs), .val (.int (-1 : Int32)), .val (.int (6 : Int32))] [(.int (6 : Int32)), (.ref aC)])
            obtain ⟨c68, A68, -, S68, M68, H68, -⟩ := id F2
            have B68 := inb_of S68 (j := (6 : Int32)) (by decide)
            refine go (fun _ => X67.iaload hx (j := (6 : Int32)) (v := (.int (-1 : Int32))) (by rw [e67]; exact A68.1) (State.isArrayOf_alike hZ.alike A68.2.1) A68.2.2 B68 (H68.at B68 rfl) (g := (mkF m 18 #[.val (.int cs), .val (.int rs), .val (.int (-1 : Int32)), .val (.int (6 : Int32))] [(.int (6 : Int32)), (.ref aC)])) rfl rfl (hb hby d_prog_14_method_19_18) _) ?_
            show Ends p e below s _ _ _ T67 (mkF m 19 #[.val (.int cs), .val (.int rs), .val (.int (-1 : Int32)), .val (.int (6 : Int32))] [(.int (-1 : Int32))])
            refine go (fun _ => XS.iloadN X67.here hx rfl (hb hby d_prog_14_method_19_19) rfl) ?_
            show Ends p e below s _ _ _ T67 (mkF m 20 #[.val (.int cs), .val (.int rs), .val (.int (-1 : Int32)), .val (.int (6 : Int32))] [(.int cs), (.int (-1 : Int32))])
            refine go (fun _ => XS.icmpNo X67.here hx rfl (hb hby d_prog_14_method_19_20) rfl (XT.ii_ne_f c20_53)) ?_
            show Ends p e below s _ _ _ T67 (mkF m 23 #[.val (.int cs), .val (.int rs), .val (.int (-1 : Int32)), .val (.int (6 : Int32))] [])
            obtain ⟨T69, X69, e69, s69⟩ := getS2 X67 hx hZ hown (host := "") (Or.inl (hw _ (List.mem_of_getElem? (i := 6) rfl))) Via.refl e67 (Sta.ext O0 SR) (g := (mkF m 23 #[.val (.int cs), .val (.int rs), .val (.int (-1 : Int32)), .val (.int (6 : Int32))] [])) rfl (hb hby d_prog_14_method_19_23)
            refine go s69 ?_
            show Ends p e below s _ _ _ T69 (mkF m 26 #[.val (.int cs), .val (.int rs), .val (.int (-1 : Int32)), .val (.int (6 : Int32))] [(.ref aR)])
            refine go (fun _ => XS.iloadN X69.here hx rfl (hb hby d_prog_14_method_19_26) rfl) ?_
            show Ends p e below s _ _ _ T69 (mkF m 27 #[.val (.int cs), .val (.int rs), .val (.int (-1 : Int32)), .val (.int (6 : Int32))] [(.int (6 : Int32)), (.ref aR)])
            obtain ⟨c70, A70, -, S70, M70, H70, -⟩ := id F55
            have B70 := inb_of S70 (j := (6 : Int32)) (by decide)
            refine go (fun _ => X69.iaload hx (j := (6 : Int32)) (v := (.int (-1 : Int32))) (by rw [e69]; exact A70.1) (State.isArrayOf_alike hZ.alike A70.2.1) A70.2.2 B70 (H70.at B70 rfl) (g := (mkF m 27 #[.val (.int cs), .val (.int rs), .val (.int (-1 : Int32)), .val (.int (6 : Int32))] [(.int (6 : Int32)), (.ref aR)])) rfl rfl (hb hby d_prog_14_method_19_27) _) ?_
            show Ends p e below s _ _ _ T69 (mkF m 28 #[.val (.int cs), .val (.int rs), .val (.int (-1 : Int32)), .val (.int (6 : Int32))] [(.int (-1 : Int32))])
            refine go (fun _ => XS.iloadN X69.here hx rfl (hb hby d_prog_14_method_19_28) rfl) ?_
            show Ends p e below s _ _ _ T69 (mkF m 29 #[.val (.int cs), .val (.int rs), .val (.int (-1 : Int32)), .val (.int (6 : Int32))] [(.int rs), (.int (-1 : Int32))])
            by_cases c29_71 : (-1 : Int32) = rs
            · refine go (fun _ => XS.icmpNo X69.here hx rfl (hb hby d_prog_14_method_19_29) rfl (XT.ii_ne_f c29_71)) ?_
              show Ends p e below s _ _ _ T69 (mkF m 32 #[.val (.int cs), .val (.int rs), .val (.int (-1 : Int32)), .val (.int (6 : Int32))] [])
              refine go (fun _ => XS.iloadN X69.here hx rfl (hb hby d_prog_14_method_19_32) rfl) ?_
              show Ends p e below s _ _ _ T69 (mkF m 33 #[.val (.int cs), .val (.int rs), .val (.int (-1 : Int32)), .val (.int (6 : Int32))] [(.int (6 : Int32))])
              refine go (fun _ => XS.istoreN X69.here hx rfl (hb hby d_prog_14_method_19_33) rfl (l' := #[.val (.int cs), .val (.int rs), .val (.int (6 : Int32)), .val (.int (6 : Int32))]) rfl) ?_
              show Ends p e below s _ _ _ T69 (mkF m 34 #[.val (.int cs), .val (.int rs), .val (.int (6 : Int32)), .val (.int (6 : Int32))] [])
              refine go (fun _ => XT.iincV X69.here hx rfl (1 : Int32) (hb hby d_prog_14_method_19_34) (by decide) rfl (l' := #[.val (.int cs), .val (.int rs), .val (.int (6 : Int32)), .val (.int (7 : Int32))]) rfl) ?_
              show Ends p e below s _ _ _ T69 (mkF m 37 #[.val (.int cs), .val (.int rs), .val (.int (6 : Int32)), .val (.int (7 : Int32))] [])
              refine go (fun _ => XS.goto X69.here hx rfl (pc0 := 37) (pc' := 4) rfl (hb hby d_prog_14_method_19_37) (by decide) (by decide)) ?_
              show Ends p e below s _ _ _ T69 (mkF m 4 #[.val (.int cs), .val (.int rs), .val (.int (6 : Int32)), .val (.int (7 : Int32))] [])
              refine go (fun _ => XS.iloadN X69.here hx rfl (hb hby d_prog_14_method_19_4) rfl) ?_
              show Ends p e below s _ _ _ T69 (mkF m 5 #[.val (.int cs), .val (.int rs), .val (.int (6 : Int32)), .val (.int (7 : Int32))] [(.int (7 : Int32))])
              refine go (fun _ => XT.bipushV X69.here hx rfl (8 : Int32) (hb hby d_prog_14_method_19_5) (by decide)) ?_
              show Ends p e below s _ _ _ T69 (mkF m 7 #[.val (.int cs), .val (.int rs), .val (.int (6 : Int32)), .val (.int (7 : Int32))] [(.int (8 : Int32)), (.int (7 : Int32))])
              refine go (fun _ => XS.icmpNo X69.here hx rfl (hb hby d_prog_14_method_19_7) rfl (XT.ii_ge_f ((by decide) : (7 : Int32) < (8 : Int32)))) ?_
              show Ends p e below s _ _ _ T69 (mkF m 10 #[.val (.int cs), .val (.int rs), .val (.int (6 : Int32)), .val (.int (7 : Int32))] [])
              refine go (fun _ => XS.iloadN X69.here hx rfl (hb hby d_prog_14_method_19_10) rfl) ?_
              show Ends p e below s _ _ _ T69 (mkF m 11 #[.val (.int cs), .val (.int rs), .val (.int (6 : Int32)), .val (.int (7 : Int32))] [(.int (6 : Int32))])
              refine go (fun _ => XS.ifYes X69.here hx rfl (pc0 := 11) (pc' := 40) rfl (hb hby d_prog_14_method_19_11) rfl (XT.i0_ge_t ((by decide) : ¬ ((6 : Int32) < (0 : Int32)))) (by decide) (by decide)) ?_
              show Ends p e below s _ _ _ T69 (mkF m 40 #[.val (.int cs), .val (.int rs), .val (.int (6 : Int32)), .val (.int (7 : Int32))] [])
              refine go (fun _ => XS.iloadN X69.here hx rfl (hb hby d_prog_14_method_19_40) rfl) ?_
              show Ends p e below s _ _ _ T69 (mkF m 41 #[.val (.int cs), .val (.int rs), .val (.int (6 : Int32)), .val (.int (7 : Int32))] [(.int (6 : Int32))])
              exact endI X69 hx hlk hret (hb hby d_prog_14_method_19_41) e69 ⟨by have q0 : ¬ cs = (1 : Int32) := fun z => c20_4 z.symm; have q1 : ¬ cs = (0 : Int32) := fun z => c20_31 z.symm; have q2 : cs = (-1 : Int32) := (c20_53).symm; have q3 : ¬ rs = (0 : Int32) := fun z => c29_57 z.symm; have q4 : ¬ rs = (1 : Int32) := fun z => c29_66 z.symm; have q5 : rs = (-1 : Int32) := (c29_71).symm; simp [own_mv, q0, q1, q2, q3, q4, q5], (Fr.nil _), rfl⟩ (by decide) (by decide)
            · refine go (fun _ => XS.icmpYes X69.here hx rfl (pc0 := 29) (pc' := 34) rfl (hb hby d_prog_14_method_19_29) rfl (XT.ii_ne_t c29_71) (by decide) (by decide)) ?_
              show Ends p e below s _ _ _ T69 (mkF m 34 #[.val (.int cs), .val (.int rs), .val (.int (-1 : Int32)), .val (.int (6 : Int32))] [])
              refine go (fun _ => XT.iincV X69.here hx rfl (1 : Int32) (hb hby d_prog_14_method_19_34) (by decide) rfl (l' := #[.val (.int cs), .val (.int rs), .val (.int (-1 : Int32)), .val (.int (7 : Int32))]) rfl) ?_
              show Ends p e below s _ _ _ T69 (mkF m 37 #[.val (.int cs), .val (.int rs), .val (.int (-1 : Int32)), .val (.int (7 : Int32))] [])
              refine go (fun _ => XS.goto X69.here hx rfl (pc0 := 37) (pc' := 4) rfl (hb hby d_prog_14_method_19_37) (by decide) (by decide)) ?_
              show Ends p e below s _ _ _ T69 (mkF m 4 #[.val (.int cs), .val (.int rs), .val (.int (-1 : Int32)), .val (.int (7 : Int32))] [])
              refine go (fun _ => XS.iloadN X69.here hx rfl (hb hby d_prog_14_method_19_4) rfl) ?_
              show Ends p e below s _ _ _ T69 (mkF m 5 #[.val (.int cs), .val (.int rs), .val (.int (-1 : Int32)), .val (.int (7 : Int32))] [(.int (7 : Int32))])
              refine go (fun _ => XT.bipushV X69.here hx rfl (8 : Int32) (hb hby d_prog_14_method_19_5) (by decide)) ?_
              show Ends p e below s _ _ _ T69 (mkF m 7 #[.val (.int cs), .val (.int rs), .val (.int (-1 : Int32)), .val (.int (7 : Int32))] [(.int (8 : Int32)), (.int (7 : Int32))])
              refine go (fun _ => XS.icmpNo X69.here hx rfl (hb hby d_prog_14_method_19_7) rfl (XT.ii_ge_f ((by decide) : (7 : Int32) < (8 : Int32)))) ?_
              show Ends p e below s _ _ _ T69 (mkF m 10 #[.val (.int cs), .val (.int rs), .val (.int (-1 : Int32)), .val (.int (7 : Int32))] [])
              refine go (fun _ => XS.iloadN X69.here hx rfl (hb hby d_prog_14_method_19_10) rfl) ?_
              show Ends p e below s _ _ _ T69 (mkF m 11 #[.val (.int cs), .val (.int rs), .val (.int (-1 : Int32)), .val (.int (7 : Int32))] [(.int (-1 : Int32))])
              refine go (fun _ => XS.ifNo X69.here hx rfl (hb hby d_prog_14_method_19_11) rfl (XT.i0_ge_f ((by decide) : (-1 : Int32) < (0 : Int32)))) ?_
              show Ends p e below s _ _ _ T69 (mkF m 14 #[.val (.int cs), .val (.int rs), .val (.int (-1 : Int32)), .val (.int (7 : Int32))] [])
              obtain ⟨T72, X72, e72, s72⟩ := getS2 X69 hx hZ hown (host := "") (Or.inl (hw _ (List.mem_of_getElem? (i := 4) rfl))) Via.refl e69 (Sta.ext O0 SC) (g := (mkF m 14 #[.val (.int cs), .val (.int rs), .val (.int (-1 : Int32)), .val (.int (7 : Int32))] [])) rfl (hb hby d_prog_14_method_19_14)
              refine go s72 ?_
              show Ends p e below s _ _ _ T72 (mkF m 17 #[.val (.int cs), .val (.int rs), .val (.int (-1 : Int32)), .val (.int (7 : Int32))] [(.ref aC)])
              refine go (fun _ => XS.iloadN X72.here hx rfl (hb hby d_prog_14_method_19_17) rfl) ?_
              show Ends p e below s _ _ _ T72 (mkF m 18 #[.val (.int cs), .val (.int rs), .val (.int (-1 : Int32)), .val (.int (7 : Int32))] [(.int (7 : Int32)), (.ref aC)])
              obtain ⟨c73, A73, -, S73, M73, H73, -⟩ := id F2
              have B73 := inb_of S73 (j := (7 : Int32)) (by decide)
              refine go (fun _ => X72.iaload hx (j := (7 : Int32)) (v := (.int (1 : Int32))) (by rw [e72]; exact A73.1) (State.isArrayOf_alike hZ.alike A73.2.1) A73.2.2 B73 (H73.at B73 rfl) (g := (mkF m 18 #[.val (.int cs), .val (.int rs), .val (.int (-1 : Int32)), .val (.int (7 : Int32))] [(.int (7 : Int32)), (.ref aC)])) rfl rfl (hb hby d_prog_14_method_19_18) _) ?_
              show Ends p e below s _ _ _ T72 (mkF m 19 #[.val (.int cs), .val (.int rs), .val (.int (-1 : Int32)), .val (.int (7 : Int32))] [(.int (1 : Int32))])
              refine go (fun _ => XS.iloadN X72.here hx rfl (hb hby d_prog_14_method_19_19) rfl) ?_
              show Ends p e below s _ _ _ T72 (mkF m 20 #[.val (.int cs), .val (.int rs), .val (.int (-1 : Int32)), .val (.int (7 : Int32))] [(.int cs), (.int (1 : Int32))])
              refine go (fun _ => XS.icmpYes X72.here hx rfl (pc0 := 20) (pc' := 34) rfl (hb hby d_prog_14_method_19_20) rfl (XT.ii_ne_t c20_4) (by decide) (by decide)) ?_
              show Ends p e below s _ _ _ T72 (mkF m 34 #[.val (.int cs), .val (.int rs), .val (.int (-1 : Int32)), .val (.int (7 : Int32))] [])
              refine go (fun _ => XT.iincV X72.here hx rfl (1 : Int32) (hb hby d_prog_14_method_19_34) (by decide) rfl (l' := #[.val (.int cs), .val (.int rs), .val (.int (-1 : Int32)), .val (.int (8 : Int32))]) rfl) ?_
              show Ends p e below s _ _ _ T72 (mkF m 37 #[.val (.int cs), .val (.int rs), .val (.int (-1 : Int32)), .val (.int (8 : Int32))] [])
              refine go (fun _ => XS.goto X72.here hx rfl (pc0 := 37) (pc' := 4) rfl (hb hby d_prog_14_method_19_37) (by decide) (by decide)) ?_
              show Ends p e below s _ _ _ T72 (mkF m 4 #[.val (.int cs), .val (.int rs), .val (.int (-1 : Int32)), .val (.int (8 : Int32))] [])
              refine go (fun _ => XS.iloadN X72.here hx rfl (hb hby d_prog_14_method_19_4) rfl) ?_
              show Ends p e below s _ _ _ T72 (mkF m 5 #[.val (.int cs), .val (.int rs), .val (.int (-1 : Int32)), .val (.int (8 : Int32))] [(.int (8 : Int32))])
              refine go (fun _ => XT.bipushV X72.here hx rfl (8 : Int32) (hb hby d_prog_14_method_19_5) (by decide)) ?_
              show Ends p e below s _ _ _ T72 (mkF m 7 #[.val (.int cs), .val (.int rs), .val (.int (-1 : Int32)), .val (.int (8 : Int32))] [(.int (8 : Int32)), (.int (8 : Int32))])
              refine go (fun _ => XS.icmpYes X72.here hx rfl (pc0 := 7) (pc' := 40) rfl (hb hby d_prog_14_method_19_7) rfl (XT.ii_ge_t ((by decide) : ¬ ((8 : Int32) < (8 : Int32)))) (by decide) (by decide)) ?_
              show Ends p e below s _ _ _ T72 (mkF m 40 #[.val (.int cs), .val (.int rs), .val (.int (-1 : Int32)), .val (.int (8 : Int32))] [])
              refine go (fun _ => XS.iloadN X72.here hx rfl (hb hby d_prog_14_method_19_40) rfl) ?_
              show Ends p e below s _ _ _ T72 (mkF m 41 #[.val (.int cs), .val (.int rs), .val (.int (-1 : Int32)), .val (.int (8 : Int32))] [(.int (-1 : Int32))])
              exact endI X72 hx hlk hret (hb hby d_prog_14_method_19_41) e72 ⟨by have q0 : ¬ cs = (1 : Int32) := fun z => c20_4 z.symm; have q1 : ¬ cs = (0 : Int32) := fun z => c20_31 z.symm; have q2 : cs = (-1 : Int32) := (c20_53).symm; have q3 : ¬ rs = (0 : Int32) := fun z => c29_57 z.symm; have q4 : ¬ rs = (1 : Int32) := fun z => c29_66 z.symm; have q5 : ¬ rs = (-1 : Int32) := fun z => c29_71 z.symm; simp [own_mv, q0, q1, q2, q3, q4, q5], (Fr.nil _), rfl⟩ (by decide) (by decide)
      · refine go (fun _ => XS.icmpYes X51.here hx rfl (pc0 := 20) (pc' := 34) rfl (hb hby d_prog_14_method_19_20) rfl (XT.ii_ne_t c20_53) (by decide) (by decide)) ?_
        show Ends p e below s _ _ _ T51 (mkF m 34 #[.val (.int cs), .val (.int rs), .val (.int (-1 : Int32)), .val (.int (2 : Int32))] [])
        refine go (fun _ => XT.iincV X51.here hx rfl (1 : Int32) (hb hby d_prog_14_method_19_34) (by decide) rfl (l' := #[.val (.int cs), .val (.int rs), .val (.int (-1 : Int32)), .val (.int (3 : Int32))]) rfl) ?_
        show Ends p e below s _ _ _ T51 (mkF m 37 #[.val (.int cs), .val (.int rs), .val (.int (-1 : Int32)), .val (.int (3 : Int32))] [])
        refine go (fun _ => XS.goto X51.here hx rfl (pc0 := 37) (pc' := 4) rfl (hb hby d_prog_14_method_19_37) (by decide) (by decide)) ?_
        show Ends p e below s _ _ _ T51 (mkF m 4 #[.val (.int cs), .val (.int rs), .val (.int (-1 : Int32)), .val (.int (3 : Int32))] [])
        refine go (fun _ => XS.iloadN X51.here hx rfl (hb hby d_prog_14_method_19_4) rfl) ?_
        show Ends p e below s _ _ _ T51 (mkF m 5 #[.val (.int cs), .val (.int rs), .val (.int (-1 : Int32)), .val (.int (3 : Int32))] [(.int (3 : Int32))])
        refine go (fun _ => XT.bipushV X51.here hx rfl (8 : Int32) (hb hby d_prog_14_method_19_5) (by decide)) ?_
        show Ends p e below s _ _ _ T51 (mkF m 7 #[.val (.int cs), .val (.int rs), .val (.int (-1 : Int32)), .val (.int (3 : Int32))] [(.int (8 : Int32)), (.int (3 : Int32))])
        refine go (fun _ => XS.icmpNo X51.here hx rfl (hb hby d_prog_14_method_19_7) rfl (XT.ii_ge_f ((by decide) : (3 : Int32) < (8 : Int32)))) ?_
        show Ends p e below s _ _ _ T51 (mkF m 10 #[.val (.int cs), .val (.int rs), .val (.int (-1 : Int32)), .val (.int (3 : Int32))] [])
        refine go (fun _ => XS.iloadN X51.here hx rfl (hb hby d_prog_14_method_19_10) rfl) ?_
        show Ends p e below s _ _ _ T51 (mkF m 11 #[.val (.int cs), .val (.int rs), .val (.int (-1 : Int32)), .val (.int (3 : Int32))] [(.int (-1 : Int32))])
        refine go (fun _ => XS.ifNo X51.here hx rfl (hb hby d_prog_14_method_19_11) rfl (XT.i0_ge_f ((by decide) : (-1 : Int32) < (0 : Int32)))) ?_
        show Ends p e below s _ _ _ T51 (mkF m 14 #[.val (.int cs), .val (.int rs), .val (.int (-1 : Int32)), .val (.int (3 : Int32))] [])
        obtain ⟨T74, X74, e74, s74⟩ := getS2 X51 hx hZ hown (host := "") (Or.inl (hw _ (List.mem_of_getElem? (i := 4) rfl))) Via.refl e51 (Sta.ext O0 SC) (g := (mkF m 14 #[.val (.int cs), .val (.int rs), .val (.int (-1 : Int32)), .val (.int (3 : Int32))] [])) rfl (hb hby d_prog_14_method_19_14)
        refine go s74 ?_
        show Ends p e below s _ _ _ T74 (mkF m 17 #[.val (.int cs), .val (.int rs), .val (.int (-1 : Int32)), .val (.int (3 : Int32))] [(.ref aC)])
        refine go (fun _ => XS.iloadN X74.here hx rfl (hb hby d_prog_14_method_19_17) rfl) ?_
        show Ends p e below s _ _ _ T74 (mkF m 18 #[.val (.int cs), .val (.int rs), .val (.int (-1 : Int32)), .val (.int (3 : Int32))] [(.int (3 : Int32)), (.ref aC)])
        obtain ⟨c75, A75, -, S75, M75, H75, -⟩ := id F2
        have B75 := inb_of S75 (j := (3 : Int32)) (by decide)
        refine go (fun _ => X74.iaload hx (j := (3 : Int32)) (v := (.int (0 : Int32))) (by rw [e74]; exact A75.1) (State.isArrayOf_alike hZ.alike A75.2.1) A75.2.2 B75 (H75.at B75 rfl) (g := (mkF m 18 #[.val (.int cs), .val (.int rs), .val (.int (-1 : Int32)), .val (.int (3 : Int32))] [(.int (3 : Int32)), (.ref aC)])) rfl rfl (hb hby d_prog_14_method_19_18) _) ?_
        show Ends p e below s _ _ _ T74 (mkF m 19 #[.val (.int cs), .val (.int rs), .val (.int (-1 : Int32)), .val (.int (3 : Int32))] [(.int (0 : Int32))])
        refine go (fun _ => XS.iloadN X74.here hx rfl (hb hby d_prog_14_method_19_19) rfl) ?_
        show Ends p e below s _ _ _ T74 (mkF m 20 #[.val (.int cs), .val (.int rs), .val (.int (-1 : Int32)), .val (.int (3 : Int32))] [(.int cs), (.int (0 : Int32))])
        refine go (fun _ => XS.icmpYes X74.here hx rfl (pc0 := 20) (pc' := 34) rfl (hb hby d_prog_14_method_19_20) rfl (XT.ii_ne_t c20_31) (by decide) (by decide)) ?_
        show Ends p e below s _ _ _ T74 (mkF m 34 #[.val (.int cs), .val (.int rs), .val (.int (-1 : Int32)), .val (.int (3 : Int32))] [])
        refine go (fun _ => XT.iincV X74.here hx rfl (1 : Int32) (hb hby d_prog_14_method_19_34) (by decide) rfl (l' := #[.val (.int cs), .val (.int rs), .val (.int (-1 : Int32)), .val (.int (4 : Int32))]) rfl) ?_
        show Ends p e below s _ _ _ T74 (mkF m 37 #[.val (.int cs), .val (.int rs), .val (.int (-1 : Int32)), .val (.int (4 : Int32))] [])
        refine go (fun _ => XS.goto X74.here hx rfl (pc0 := 37) (pc' := 4) rfl (hb hby d_prog_14_method_19_37) (by decide) (by decide)) ?_
        show Ends p e below s _ _ _ T74 (mkF m 4 #[.val (.int cs), .val (.int rs), .val (.int (-1 : Int32)), .val (.int (4 : Int32))] [])
        refine go (fun _ => XS.iloadN X74.here hx rfl (hb hby d_prog_14_method_19_4) rfl) ?_
        show Ends p e below s _ _ _ T74 (mkF m 5 #[.val (.int cs), .val (.int rs), .val (.int (-1 : Int32)), .val (.int (4 : Int32))] [(.int (4 : Int32))])
        refine go (fun _ => XT.bipushV X74.here hx rfl (8 : Int32) (hb hby d_prog_14_method_19_5) (by decide)) ?_
        show Ends p e below s _ _ _ T74 (mkF m 7 #[.val (.int cs), .val (.int rs), .val (.int (-1 : Int32)), .val (.int (4 : Int32))] [(.int (8 : Int32)), (.int (4 : Int32))])
        refine go (fun _ => XS.icmpNo X74.here hx rfl (hb hby d_prog_14_method_19_7) rfl (XT.ii_ge_f ((by decide) : (4 : Int32) < (8 : Int32)))) ?_
        show Ends p e below s _ _ _ T74 (mkF m 10 #[.val (.int cs), .val (.int rs), .val (.int (-1 : Int32)), .val (.int (4 : Int32))] [])
        refine go (fun _ => XS.iloadN X74.here hx rfl (hb hby d_prog_14_method_19_10) rfl) ?_
        show Ends p e below s _ _ _ T74 (mkF m 11 #[.val (.int cs), .val (.int rs), .val (.int (-1 : Int32)), .val (.int (4 : Int32))] [(.int (-1 : Int32))])
        refine go (fun _ => XS.ifNo X74.here hx rfl (hb hby d_prog_14_method_19_11) rfl (XT.i0_ge_f ((by decide) : (-1 : Int32) < (0 : Int32)))) ?_
        show Ends p e below s _ _ _ T74 (mkF m 14 #[.val (.int cs), .val (.int rs), .val (.int (-1 : Int32)), .val (.int (4 : Int32))] [])
        obtain ⟨T76, X76, e76, s76⟩ := getS2 X74 hx hZ hown (host := "") (Or.inl (hw _ (List.mem_of_getElem? (i := 4) rfl))) Via.refl e74 (Sta.ext O0 SC) (g := (mkF m 14 #[.val (.int cs), .val (.int rs), .val (.int (-1 : Int32)), .val (.int (4 : Int32))] [])) rfl (hb hby d_prog_14_method_19_14)
        refine go s76 ?_
        show Ends p e below s _ _ _ T76 (mkF m 17 #[.val (.int cs), .val (.int rs), .val (.int (-1 : Int32)), .val (.int (4 : Int32))] [(.ref aC)])
        refine go (fun _ => XS.iloadN X76.here hx rfl (hb hby d_prog_14_method_19_17) rfl) ?_
        show Ends p e below s _ _ _ T76 (mkF m 18 #[.val (.int cs), .val (.int rs), .val (.int (-1 : Int32)), .val (.int (4 : Int32))] [(.int (4 : Int32)), (.ref aC)])
        obtain ⟨c77, A77, -, S77, M77, H77, -⟩ := id F2
        have B77 := inb_of S77 (j := (4 : Int32)) (by decide)
        refine go (fun _ => X76.iaload hx (j := (4 : Int32)) (v := (.int (1 : Int32))) (by rw [e76]; exact A77.1) (State.isArrayOf_alike hZ.alike A77.2.1) A77.2.2 B77 (H77.at B77 rfl) (g := (mkF m 18 #[.val (.int cs), .val (.int rs), .val (.int (-1 : Int32)), .val (.int (4 : Int32))] [(.int (4 : Int32)), (.ref aC)])) rfl rfl (hb hby d_prog_14_method_19_18) _) ?_
        show Ends p e below s _ _ _ T76 (mkF m 19 #[.val (.int cs), .val (.int rs), .val (.int (-1 : Int32)), .val (.int (4 : Int32))] [(.int (1 : Int32))])
        refine go (fun _ => XS.iloadN X76.here hx rfl (hb hby d_prog_14_method_19_19) rfl) ?_
        show Ends p e below s _ _ _ T76 (mkF m 20 #[.val (.int cs), .val (.int rs), .val (.int (-1 : Int32)), .val (.int (4 : Int32))] [(.int cs), (.int (1 : Int32))])
        refine go (fun _ => XS.icmpYes X76.here hx rfl (pc0 := 20) (pc' := 34) rfl (hb hby d_prog_14_method_19_20) rfl (XT.ii_ne_t c20_4) (by decide) (by decide)) ?_
        show Ends p e below s _ _ _ T76 (mkF m 34 #[.val (.int cs), .val (.int rs), .val (.int (-1 : Int32)), .val (.int (4 : Int32))] [])
        refine go (fun _ => XT.iincV X76.here hx rfl (1 : Int32) (hb hby d_prog_14_method_19_34) (by decide) rfl (l' := #[.val (.int cs), .val (.int rs), .val (.int (-1 : Int32)), .val (.int (5 : Int32))]) rfl) ?_
        show Ends p e below s _ _ _ T76 (mkF m 37 #[.val (.int cs), .val (.int rs), .val (.int (-1 : Int32)), .val (.int (5 : Int32))] [])
        refine go (fun _ => XS.goto X76.here hx rfl (pc0 := 37) (pc' := 4) rfl (hb hby d_prog_14_method_19_37) (by decide) (by decide)) ?_
        show Ends p e below s _ _ _ T76 (mkF m 4 #[.val (.int cs), .val (.int rs), .val (.int (-1 : Int32)), .val (.int (5 : Int32))] [])
        refine go (fun _ => XS.iloadN X76.here hx rfl (hb hby d_prog_14_method_19_4) rfl) ?_
        show Ends p e below s _ _ _ T76 (mkF m 5 #[.val (.int cs), .val (.int rs), .val (.int (-1 : Int32)), .val (.int (5 : Int32))] [(.int (5 : Int32))])
        refine go (fun _ => XT.bipushV X76.here hx rfl (8 : Int32) (hb hby d_prog_14_method_19_5) (by decide)) ?_
        show Ends p e below s _ _ _ T76 (mkF m 7 #[.val (.int cs), .val (.int rs), .val (.int (-1 : Int32)), .val (.int (5 : Int32))] [(.int (8 : Int32)), (.int (5 : Int32))])
        refine go (fun _ => XS.icmpNo X76.here hx rfl (hb hby d_prog_14_method_19_7) rfl (XT.ii_ge_f ((by decide) : (5 : Int32) < (8 : Int32)))) ?_
        show Ends p e below s _ _ _ T76 (mkF m 10 #[.val (.int cs), .val (.int rs), .val (.int (-1 : Int32)), .val (.int (5 : Int32))] [])
        refine go (fun _ => XS.iloadN X76.here hx rfl (hb hby d_prog_14_method_19_10) rfl) ?_
        show Ends p e below s _ _ _ T76 (mkF m 11 #[.val (.int cs), .val (.int rs), .val (.int (-1 : Int32)), .val (.int (5 : Int32))] [(.int (-1 : Int32))])
        refine go (fun _ => XS.ifNo X76.here hx rfl (hb hby d_prog_14_method_19_11) rfl (XT.i0_ge_f ((by decide) : (-1 : Int32) < (0 : Int32)))) ?_
        show Ends p e below s _ _ _ T76 (mkF m 14 #[.val (.int cs), .val (.int rs), .val (.int (-1 : Int32)), .val (.int (5 : Int32))] [])
        obtain ⟨T78, X78, e78, s78⟩ := getS2 X76 hx hZ hown (host := "") (Or.inl (hw _ (List.mem_of_getElem? (i := 4) rfl))) Via.refl e76 (Sta.ext O0 SC) (g := (mkF m 14 #[.val (.int cs), .val (.int rs), .val (.int (-1 : Int32)), .val (.int (5 : Int32))] [])) rfl (hb hby d_prog_14_method_19_14)
        refine go s78 ?_
        show Ends p e below s _ _ _ T78 (mkF m 17 #[.val (.int cs), .val (.int rs), .val (.int (-1 : Int32)), .val (.int (5 : Int32))] [(.ref aC)])
        refine go (fun _ => XS.iloadN X78.here hx rfl (hb hby d_prog_14_method_19_17) rfl) ?_
        show Ends p e below s _ _ _ T78 (mkF m 18 #[.val (.int cs), .val (.int rs), .val (.int (-1 : Int32)), .val (.int (5 : Int32))] [(.int (5 : Int32)), (.ref aC)])
        obtain ⟨c79, A79, -, S79, M79, H79, -⟩ := id F2
        have B79 := inb_of S79 (j := (5 : Int32)) (by decide)
        refine go (fun _ => X78.iaload hx (j := (5 : Int32)) (v := (.int (-1 : Int32))) (by rw [e78]; exact A79.1) (State.isArrayOf_alike hZ.alike A79.2.1) A79.2.2 B79 (H79.at B79 rfl) (g := (mkF m 18 #[.val (.int cs), .val (.int rs), .val (.int (-1 : Int32)), .val (.int (5 : Int32))] [(.int (5 : Int32)), (.ref aC)])) rfl rfl (hb hby d_prog_14_method_19_18) _) ?_
        show Ends p e below s _ _ _ T78 (mkF m 19 #[.val (.int cs), .val (.int rs), .val (.int (-1 : Int32)), .val (.int (5 : Int32))] [(.int (-1 : Int32))])
        refine go (fun _ => XS.iloadN X78.here hx rfl (hb hby d_prog_14_method_19_19) rfl) ?_
        show Ends p e below s _ _ _ T78 (mkF m 20 #[.val (.int cs), .val (.int rs), .val (.int (-1 : Int32)), .val (.int (5 : Int32))] [(.int cs), (.int (-1 : Int32))])
        refine go (fun _ => XS.icmpYes X78.here hx rfl (pc0 := 20) (pc' := 34) rfl (hb hby d_prog_14_method_19_20) rfl (XT.ii_ne_t c20_53) (by decide) (by decide)) ?_
        show Ends p e below s _ _ _ T78 (mkF m 34 #[.val (.int cs), .val (.int rs), .val (.int (-1 : Int32)), .val (.int (5 : Int32))] [])
        refine go (fun _ => XT.iincV X78.here hx rfl (1 : Int32) (hb hby d_prog_14_method_19_34) (by decide) rfl (l' := #[.val (.int cs), .val (.int rs), .val (.int (-1 : Int32)), .val (.int (6 : Int32))]) rfl) ?_
        show Ends p e below s _ _ _ T78 (mkF m 37 #[.val (.int cs), .val (.int rs), .val (.int (-1 : Int32)), .val (.int (6 : Int32))] [])
        refine go (fun _ => XS.goto X78.here hx rfl (pc0 := 37) (pc' := 4) rfl (hb hby d_prog_14_method_19_37) (by decide) (by decide)) ?_
        show Ends p e below s _ _ _ T78 (mkF m 4 #[.val (.int cs), .val (.int rs), .val (.int (-1 : Int32)), .val (.int (6 : Int32))] [])
        refine go (fun _ => XS.iloadN X78.here hx rfl (hb hby d_prog_14_method_19_4) rfl) ?_
        show Ends p e below s _ _ _ T78 (mkF m 5 #[.val (.int cs), .val (.int rs), .val (.int (-1 : Int32)), .val (.int (6 : Int32))] [(.int (6 : Int32))])
        refine go (fun _ => XT.bipushV X78.here hx rfl (8 : Int32) (hb hby d_prog_14_method_19_5) (by decide)) ?_
        show Ends p e below s _ _ _ T78 (mkF m 7 #[.val (.int cs), .val (.int rs), .val (.int (-1 : Int32)), .val (.int (6 : Int32))] [(.int (8 : Int32)), (.int (6 : Int32))])
        refine go (fun _ => XS.icmpNo X78.here hx rfl (hb hby d_prog_14_method_19_7) rfl (XT.ii_ge_f ((by decide) : (6 : Int32) < (8 : Int32)))) ?_
        show Ends p e below s _ _ _ T78 (mkF m 10 #[.val (.int cs), .val (.int rs), .val (.int (-1 : Int32)), .val (.int (6 : Int32))] [])
        refine go (fun _ => XS.iloadN X78.here hx rfl (hb hby d_prog_14_method_19_10) rfl) ?_
        show Ends p e below s _ _ _ T78 (mkF m 11 #[.val (.int cs), .val (.int rs), .val (.int (-1 : Int32)), .val (.int (6 : Int32))] [(.int (-1 : Int32))])
        refine go (fun _ => XS.ifNo X78.here hx rfl (hb hby d_prog_14_method_19_11) rfl (XT.i0_ge_f ((by decide) : (-1 : Int32) < (0 : Int32)))) ?_
        show Ends p e below s _ _ _ T78 (mkF m 14 #[.val (.int cs), .val (.int rs), .val (.int (-1 : Int32)), .val (.int (6 : Int32))] [])
        obtain ⟨T80, X80, e80, s80⟩ := getS2 X78 hx hZ hown (host := "") (Or.inl (hw _ (List.mem_of_getElem? (i := 4) rfl))) Via.refl e78 (Sta.ext O0 SC) (g := (mkF m 14 #[.val (.int cs), .val (.int rs), .val (.int (-1 : Int32)), .val (.int (6 : Int32))] [])) rfl (hb hby d_prog_14_method_19_14)
        refine go s80 ?_
        show Ends p e below s _ _ _ T80 (mkF m 17 #[.val (.int cs), .val (.int rs), .val (.int (-1 : Int32)), .val (.int (6 : Int32))] [(.ref aC)])
        refine go (fun _ => XS.iloadN X80.here hx rfl (hb hby d_prog_14_method_19_17) rfl) ?_
        show Ends p e below s _ _ _ T80 (mkF m 18 #[.val (.int cs), .val (.int rs), .val (.int (-1 : Int32)), .val (.int (6 : Int32))] [(.int (6 : Int32)), (.ref aC)])
        obtain ⟨c81, A81, -, S81, M81, H81, -⟩ := id F2
        have B81 := inb_of S81 (j := (6 : Int32)) (by decide)
        refine go (fun _ => X80.iaload hx (j := (6 : Int32)) (v := (.int (-1 : Int32))) (by rw [e80]; exact A81.1) (State.isArrayOf_alike hZ.alike A81.2.1) A81.2.2 B81 (H81.at B81 rfl) (g := (mkF m 18 #[.val (.int cs), .val (.int rs), .val (.int (-1 : Int32)), .val (.int (6 : Int32))] [(.int (6 : Int32)), (.ref aC)])) rfl rfl (hb hby d_prog_14_method_19_18) _) ?_
        show Ends p e below s _ _ _ T80 (mkF m 19 #[.val (.int cs), .val (.int rs), .val (.int (-1 : Int32)), .val (.int (6 : Int32))] [(.int (-1 : Int32))])
        refine go (fun _ => XS.iloadN X80.here hx rfl (hb hby d_prog_14_method_19_19) rfl) ?_
        show Ends p e below s _ _ _ T80 (mkF m 20 #[.val (.int cs), .val (.int rs), .val (.int (-1 : Int32)), .val (.int (6 : Int32))] [(.int cs), (.int (-1 : Int32))])
        refine go (fun _ => XS.icmpYes X80.here hx rfl (pc0 := 20) (pc' := 34) rfl (hb hby d_prog_14_method_19_20) rfl (XT.ii_ne_t c20_53) (by decide) (by decide)) ?_
        show Ends p e below s _ _ _ T80 (mkF m 34 #[.val (.int cs), .val (.int rs), .val (.int (-1 : Int32)), .val (.int (6 : Int32))] [])
        refine go (fun _ => XT.iincV X80.here hx rfl (1 : Int32) (hb hby d_prog_14_method_19_34) (by decide) rfl (l' := #[.val (.int cs), .val (.int rs), .val (.int (-1 : Int32)), .val (.int (7 : Int32))]) rfl) ?_
        show Ends p e below s _ _ _ T80 (mkF m 37 #[.val (.int cs), .val (.int rs), .val (.int (-1 : Int32)), .val (.int (7 : Int32))] [])
        refine go (fun _ => XS.goto X80.here hx rfl (pc0 := 37) (pc' := 4) rfl (hb hby d_prog_14_method_19_37) (by decide) (by decide)) ?_
        show Ends p e below s _ _ _ T80 (mkF m 4 #[.val (.int cs), .val (.int rs), .val (.int (-1 : Int32)), .val (.int (7 : Int32))] [])
        refine go (fun _ => XS.iloadN X80.here hx rfl (hb hby d_prog_14_method_19_4) rfl) ?_
        show Ends p e below s _ _ _ T80 (mkF m 5 #[.val (.int cs), .val (.int rs), .val (.int (-1 : Int32)), .val (.int (7 : Int32))] [(.int (7 : Int32))])
        refine go (fun _ => XT.bipushV X80.here hx rfl (8 : Int32) (hb hby d_prog_14_method_19_5) (by decide)) ?_
        show Ends p e below s _ _ _ T80 (mkF m 7 #[.val (.int cs), .val (.int rs), .val (.int (-1 : Int32)), .val (.int (7 : Int32))] [(.int (8 : Int32)), (.int (7 : Int32))])
        refine go (fun _ => XS.icmpNo X80.here hx rfl (hb hby d_prog_14_method_19_7) rfl (XT.ii_ge_f ((by decide) : (7 : Int32) < (8 : Int32)))) ?_
        show Ends p e below s _ _ _ T80 (mkF m 10 #[.val (.int cs), .val (.int rs), .val (.int (-1 : Int32)), .val (.int (7 : Int32))] [])
        refine go (fun _ => XS.iloadN X80.here hx rfl (hb hby d_prog_14_method_19_10) rfl) ?_
        show Ends p e below s _ _ _ T80 (mkF m 11 #[.val (.int cs), .val (.int rs), .val (.int (-1 : Int32)), .val (.int (7 : Int32))] [(.int (-1 : Int32))])
        refine go (fun _ => XS.ifNo X80.here hx rfl (hb hby d_prog_14_method_19_11) rfl (XT.i0_ge_f ((by decide) : (-1 : Int32) < (0 : Int32)))) ?_
        show Ends p e below s _ _ _ T80 (mkF m 14 #[.val (.int cs), .val (.int rs), .val (.int (-1 : Int32)), .val (.int (7 : Int32))] [])
        obtain ⟨T82, X82, e82, s82⟩ := getS2 X80 hx hZ hown (host := "") (Or.inl (hw _ (List.mem_of_getElem? (i := 4) rfl))) Via.refl e80 (Sta.ext O0 SC) (g := (mkF m 14 #[.val (.int cs), .val (.int rs), .val (.int (-1 : Int32)), .val (.int (7 : Int32))] [])) rfl (hb hby d_prog_14_method_19_14)
        refine go s82 ?_
        show Ends p e below s _ _ _ T82 (mkF m 17 #[.val (.int cs), .val (.int rs), .val (.int (-1 : Int32)), .val (.int (7 : Int32))] [(.ref aC)])
        refine go (fun _ => XS.iloadN X82.here hx rfl (hb hby d_prog_14_method_19_17) rfl) ?_
        show Ends p e below s _ _ _ T82 (mkF m 18 #[.val (.int cs), .val (.int rs), .val (.int (-1 : Int32)), .val (.int (7 : Int32))] [(.int (7 : Int32)), (.ref aC)])
        obtain ⟨c83, A83, -, S83, M83, H83, -⟩ := id F2
        have B83 := inb_of S83 (j := (7 : Int32)) (by decide)
        refine go (fun _ => X82.iaload hx (j := (7 : Int32)) (v := (.int (1 : Int32))) (by rw [e82]; exact A83.1) (State.isArrayOf_alike hZ.alike A83.2.1) A83.2.2 B83 (H83.at B83 rfl) (g := (mkF m 18 #[.val (.int cs), .val (.int rs), .val (.int (-1 : Int32)), .val (.int (7 : Int32))] [(.int (7 : Int32)), (.ref aC)])) rfl rfl (hb hby d_prog_14_method_19_18) _) ?_
        show Ends p e below s _ _ _ T82 (mkF m 19 #[.val (.int cs), .val (.int rs), .val (.int (-1 : Int32)), .val (.int (7 : Int32))] [(.int (1 : Int32))])
        refine go (fun _ => XS.iloadN X82.here hx rfl (hb hby d_prog_14_method_19_19) rfl) ?_
        show Ends p e below s _ _ _ T82 (mkF m 20 #[.val (.int cs), .val (.int rs), .val (.int (-1 : Int32)), .val (.int (7 : Int32))] [(.int cs), (.int (1 : Int32))])
        refine go (fun _ => XS.icmpYes X82.here hx rfl (pc0 := 20) (pc' := 34) rfl (hb hby d_prog_14_method_19_20) rfl (XT.ii_ne_t c20_4) (by decide) (by decide)) ?_
        show Ends p e below s _ _ _ T82 (mkF m 34 #[.val (.int cs), .val (.int rs), .val (.int (-1 : Int32)), .val (.int (7 : Int32))] [])
        refine go (fun _ => XT.iincV X82.here hx rfl (1 : Int32) (hb hby d_prog_14_method_19_34) (by decide) rfl (l' := #[.val (.int cs), .val (.int rs), .val (.int (-1 : Int32)), .val (.int (8 : Int32))]) rfl) ?_
        show Ends p e below s _ _ _ T82 (mkF m 37 #[.val (.int cs), .val (.int rs), .val (.int (-1 : Int32)), .val (.int (8 : Int32))] [])
        refine go (fun _ => XS.goto X82.here hx rfl (pc0 := 37) (pc' := 4) rfl (hb hby d_prog_14_method_19_37) (by decide) (by decide)) ?_
        show Ends p e below s _ _ _ T82 (mkF m 4 #[.val (.int cs), .val (.int rs), .val (.int (-1 : Int32)), .val (.int (8 : Int32))] [])
        refine go (fun _ => XS.iloadN X82.here hx rfl (hb hby d_prog_14_method_19_4) rfl) ?_
        show Ends p e below s _ _ _ T82 (mkF m 5 #[.val (.int cs), .val (.int rs), .val (.int (-1 : Int32)), .val (.int (8 : Int32))] [(.int (8 : Int32))])
        refine go (fun _ => XT.bipushV X82.here hx rfl (8 : Int32) (hb hby d_prog_14_method_19_5) (by decide)) ?_
        show Ends p e below s _ _ _ T82 (mkF m 7 #[.val (.int cs), .val (.int rs), .val (.int (-1 : Int32)), .val (.int (8 : Int32))] [(.int (8 : Int32)), (.int (8 : Int32))])
        refine go (fun _ => XS.icmpYes X82.here hx rfl (pc0 := 7) (pc' := 40) rfl (hb hby d_prog_14_method_19_7) rfl (XT.ii_ge_t ((by decide) : ¬ ((8 : Int32) < (8 : Int32)))) (by decide) (by decide)) ?_
        show Ends p e below s _ _ _ T82 (mkF m 40 #[.val (.int cs), .val (.int rs), .val (.int (-1 : Int32)), .val (.int (8 : Int32))] [])
        refine go (fun _ => XS.iloadN X82.here hx rfl (hb hby d_prog_14_method_19_40) rfl) ?_
        show Ends p e below s _ _ _ T82 (mkF m 41 #[.val (.int cs), .val (.int rs), .val (.int (-1 : Int32)), .val (.int (8 : Int32))] [(.int (-1 : Int32))])
        exact endI X82 hx hlk hret (hb hby d_prog_14_method_19_41) e82 ⟨by have q0 : ¬ cs = (1 : Int32) := fun z => c20_4 z.symm; have q1 : ¬ cs = (0 : Int32) := fun z => c20_31 z.symm; have q2 : ¬ cs = (-1 : Int32) := fun z => c20_53 z.symm; simp [own_mv, q0, q1, q2], (Fr.nil _), rfl⟩ (by decide) (by decide)
set_option maxRecDepth 65536 in
set_option maxHeartbeats 40000000 in
theorem rm_law {l : Launch} {Z : State} {a0 : Array Value} (hw : ∀ d ∈ tables_1, d.before a0 Z = true) (i0 i1 i2 : Int32) (aC aR : Addr) (kC kR : ClassId) (h0 : Heap) (O0 : Ext Z.heap h0) (SC : Sta Z Z.heap "com/example/pedestrain/pedestrain/core/Grid" "COLUMN_STEP" "[I" (.ref aC)) (SR : Sta Z Z.heap "com/example/pedestrain/pedestrain/core/Grid" "ROW_STEP" "[I" (.ref aR)) (VC : Arv Z Z.heap aC kC .int (8 : Int32) own_cs (.int 0)) (VR : Arv Z Z.heap aR kR .int (8 : Int32) own_rs (.int 0)) :
    Con l x code maxLocals ret room_1 Z #[(.int i0), (.int i1), (.int i2)] h0 (fun v h L => v = some (.int 1) ∧ Fr Z.heap.size L) := by
  refine Con.of (plainFor_of_name pn_1) (Ls := #[.val (.int i0), .val (.int i1), .val (.int i2), .unset, .unset, .unset, .unset, .unset]) (fun m => by first | rfl | (simp [entryFrame, mkF, argsToLocals, Value.category, maxLocals]; done)) ?_
  intro p e s m below meth c T0 X0 hx hZ hby hml hown hnm hret hlk e0
  have hml : c.maxLocals = 8 := hml
  refine go (fun _ => XS.iloadN X0.here hx rfl (hb hby at_0) rfl) ?_
  show Ends p e below s _ _ _ T0 (mkF m 1 #[.val (.int i0), .val (.int i1), .val (.int i2), .unset, .unset, .unset, .unset, .unset] [(.int i2)])
  refine go (fun _ => XT.iconstV X0.here hx rfl (1 : Int32) (hb hby at_1) (by decide)) ?_
  show Ends p e below s _ _ _ T0 (mkF m 2 #[.val (.int i0), .val (.int i1), .val (.int i2), .unset, .unset, .unset, .unset, .unset] [(.int (1 : Int32)), (.int i2)])
  refine go (fun _ => XS.iand X0.here hx rfl (hb hby at_2) rfl) ?_
  show Ends p e below s _ _ _ T0 (mkF m 3 #[.val (.int i0), .val (.int i1), .val (.int i2), .unset, .unset, .unset, .unset, .unset] [(.int (i2 &&& (1 : Int32)))])
  have J13 : ∀ (z84_0 : Int32), Ends p e below s (fun v h L => v = some (.int 1) ∧ Fr Z.heap.size L) room_1.cells room_1.slots T0 (mkF m 13 #[.val (.int i0), .val (.int i1), .val (.int i2), .unset, .unset, .unset, .unset, .unset] [(.int z84_0)]) := by
    intro z84_0
    refine go (fun _ => XS.istoreN X0.here hx rfl (hb hby at_13) rfl (l' := #[.val (.int i0), .val (.int i1), .val (.int i2), .val (.int z84_0), .unset, .unset, .unset, .unset]) rfl) ?_
    show Ends p e below s _ _ _ T0 (mkF m 14 #[.val (.int i0), .val (.int i1), .val (.int i2), .val (.int z84_0), .unset, .unset, .unset, .unset] [])
    refine go (fun _ => XS.iloadN X0.here hx rfl (hb hby at_14) rfl) ?_
    show Ends p e below s _ _ _ T0 (mkF m 15 #[.val (.int i0), .val (.int i1), .val (.int i2), .val (.int z84_0), .unset, .unset, .unset, .unset] [(.int i2)])
    refine go (fun _ => XT.iconstV X0.here hx rfl (2 : Int32) (hb hby at_15) (by decide)) ?_
    show Ends p e below s _ _ _ T0 (mkF m 16 #[.val (.int i0), .val (.int i1), .val (.int i2), .val (.int z84_0), .unset, .unset, .unset, .unset] [(.int (2 : Int32)), (.int i2)])
    refine go (fun _ => XS.iand X0.here hx rfl (hb hby at_16) rfl) ?_
    show Ends p e below s _ _ _ T0 (mkF m 17 #[.val (.int i0), .val (.int i1), .val (.int i2), .val (.int z84_0), .unset, .unset, .unset, .unset] [(.int (i2 &&& (2 : Int32)))])
    have J27 : ∀ (z85_0 : Int32), Ends p e below s (fun v h L => v = some (.int 1) ∧ Fr Z.heap.size L) room_1.cells room_1.slots T0 (mkF m 27 #[.val (.int i0), .val (.int i1), .val (.int i2), .val (.int z84_0), .unset, .unset, .unset, .unset] [(.int z85_0)]) := by
      intro z85_0
      refine go (fun _ => XS.istore X0.here hx rfl (hb hby at_27) rfl (l' := #[.val (.int i0), .val (.int i1), .val (.int i2), .val (.int z84_0), .val (.int z85_0), .unset, .unset, .unset]) rfl) ?_
      show Ends p e below s _ _ _ T0 (mkF m 29 #[.val (.int i0), .val (.int i1), .val (.int i2), .val (.int z84_0), .val (.int z85_0), .unset, .unset, .unset] [])
      refine go (fun _ => XS.iloadN X0.here hx rfl (hb hby at_29) rfl) ?_
      show Ends p e below s _ _ _ T0 (mkF m 30 #[.val (.int i0), .val (.int i1), .val (.int i2), .val (.int z84_0), .val (.int z85_0), .unset, .unset, .unset] [(.int z84_0)])
      refine go (fun _ => XS.iload X0.here hx rfl (hb hby at_30) rfl) ?_
      show Ends p e below s _ _ _ T0 (mkF m 32 #[.val (.int i0), .val (.int i1), .val (.int i2), .val (.int z84_0), .val (.int z85_0), .unset, .unset, .unset] [(.int z85_0), (.int z84_0)])
      refine cStat X0 hx hZ hown (by rw [hml]; rfl) e0 (hw _ (List.mem_of_getElem? (i := 0) rfl)) (hw _ (List.mem_of_getElem? (i := 1) rfl)) (hw _ (List.mem_of_getElem? (i := 2) rfl)) (hw _ (List.mem_of_getElem? (i := 3) rfl)) [(.int z84_0), (.int z85_0)] [] rfl (rm_mv hw z84_0 z85_0 aC aR kC kR _ O0 SC SR VC VR) (hb hby at_32) rfl (lenOf pd_2 rfl) (by decide) (by decide) (Nat.le_of_ble_eq_true rfl) (by decide) (by decide) ?_
      rintro v86 T86 h86 L86 X86 e86 ⟨rfl, N86, rfl⟩
      have N86a := Fr.app (Fr.nil _) N86
      show Ends p e below s _ _ _ T86 (mkF m 35 #[.val (.int i0), .val (.int i1), .val (.int i2), .val (.int z84_0), .val (.int z85_0), .unset, .unset, .unset] [(.int (own_mv z84_0 z85_0))])
      rcases own_five z84_0 with c | rfl | rfl | rfl | c
      · rw [own_mvc (Or.inl c)]
        show Ends p e below s _ _ _ T86 (mkF m 35 #[.val (.int i0), .val (.int i1), .val (.int i2), .val (.int z84_0), .val (.int z85_0), .unset, .unset, .unset] [(.int (-1 : Int32))])
        refine go (fun _ => XS.istore X86.here hx rfl (hb hby at_35) rfl (l' := #[.val (.int i0), .val (.int i1), .val (.int i2), .val (.int z84_0), .val (.int z85_0), .val (.int (-1 : Int32)), .unset, .unset]) rfl) ?_
        show Ends p e below s _ _ _ T86 (mkF m 37 #[.val (.int i0), .val (.int i1), .val (.int i2), .val (.int z84_0), .val (.int z85_0), .val (.int (-1 : Int32)), .unset, .unset] [])
        refine go (fun _ => XS.iloadN X86.here hx rfl (hb hby at_37) rfl) ?_
        show Ends p e below s _ _ _ T86 (mkF m 38 #[.val (.int i0), .val (.int i1), .val (.int i2), .val (.int z84_0), .val (.int z85_0), .val (.int (-1 : Int32)), .unset, .unset] [(.int z84_0)])
        refine go (fun _ => XT.iconstV X86.here hx rfl (-1 : Int32) (hb hby at_38) (by decide)) ?_
        show Ends p e below s _ _ _ T86 (mkF m 39 #[.val (.int i0), .val (.int i1), .val (.int i2), .val (.int z84_0), .val (.int z85_0), .val (.int (-1 : Int32)), .unset, .unset] [(.int (-1 : Int32)), (.int z84_0)])
        refine go (fun _ => XS.icmpYes X86.here hx rfl (pc0 := 39) (pc' := 72) rfl (hb hby at_39) rfl (XT.ii_lt_t c) (by decide) (by decide)) ?_
        show Ends p e below s _ _ _ T86 (mkF m 72 #[.val (.int i0), .val (.int i1), .val (.int i2), .val (.int z84_0), .val (.int z85_0), .val (.int (-1 : Int32)), .unset, .unset] [])
        refine go (fun _ => XT.iconstV X86.here hx rfl (0 : Int32) (hb hby at_72) (by decide)) ?_
        show Ends p e below s _ _ _ T86 (mkF m 73 #[.val (.int i0), .val (.int i1), .val (.int i2), .val (.int z84_0), .val (.int z85_0), .val (.int (-1 : Int32)), .unset, .unset] [(.int (0 : Int32))])
        refine go (fun _ => XS.istore X86.here hx rfl (hb hby at_73) rfl (l' := #[.val (.int i0), .val (.int i1), .val (.int i2), .val (.int z84_0), .val (.int z85_0), .val (.int (-1 : Int32)), .val (.int (0 : Int32)), .unset]) rfl) ?_
        show Ends p e below s _ _ _ T86 (mkF m 75 #[.val (.int i0), .val (.int i1), .val (.int i2), .val (.int z84_0), .val (.int z85_0), .val (.int (-1 : Int32)), .val (.int (0 : Int32)), .unset] [])
        refine go (fun _ => XS.iload X86.here hx rfl (hb hby at_75) rfl) ?_
        show Ends p e below s _ _ _ T86 (mkF m 77 #[.val (.int i0), .val (.int i1), .val (.int i2), .val (.int z84_0), .val (.int z85_0), .val (.int (-1 : Int32)), .val (.int (0 : Int32)), .unset] [(.int (0 : Int32))])
        refine go (fun _ => XS.ifNo X86.here hx rfl (hb hby at_77) rfl (XT.i0_ne_f ((by decide) : (0 : Int32) = (0 : Int32)))) ?_
        show Ends p e below s _ _ _ T86 (mkF m 80 #[.val (.int i0), .val (.int i1), .val (.int i2), .val (.int z84_0), .val (.int z85_0), .val (.int (-1 : Int32)), .val (.int (0 : Int32)), .unset] [])
        refine go (fun _ => XS.iload X86.here hx rfl (hb hby at_80) rfl) ?_
        show Ends p e below s _ _ _ T86 (mkF m 82 #[.val (.int i0), .val (.int i1), .val (.int i2), .val (.int z84_0), .val (.int z85_0), .val (.int (-1 : Int32)), .val (.int (0 : Int32)), .unset] [(.int (-1 : Int32))])
        refine go (fun _ => XT.iconstV X86.here hx rfl (-1 : Int32) (hb hby at_82) (by decide)) ?_
        show Ends p e below s _ _ _ T86 (mkF m 83 #[.val (.int i0), .val (.int i1), .val (.int i2), .val (.int z84_0), .val (.int z85_0), .val (.int (-1 : Int32)), .val (.int (0 : Int32)), .unset] [(.int (-1 : Int32)), (.int (-1 : Int32))])
        refine go (fun _ => XS.icmpNo X86.here hx rfl (hb hby at_83) rfl (XT.ii_ne_f ((by decide) : (-1 : Int32) = (-1 : Int32)))) ?_
        show Ends p e below s _ _ _ T86 (mkF m 86 #[.val (.int i0), .val (.int i1), .val (.int i2), .val (.int z84_0), .val (.int z85_0), .val (.int (-1 : Int32)), .val (.int (0 : Int32)), .unset] [])
        refine go (fun _ => XT.iconstV X86.here hx rfl (1 : Int32) (hb hby at_86) (by decide)) ?_
        show Ends p e below s _ _ _ T86 (mkF m 87 #[.val (.int i0), .val (.int i1), .val (.int i2), .val (.int z84_0), .val (.int z85_0), .val (.int (-1 : Int32)), .val (.int (0 : Int32)), .unset] [(.int (1 : Int32))])
        refine go (fun _ => XS.goto X86.here hx rfl (pc0 := 87) (pc' := 91) rfl (hb hby at_87) (by decide) (by decide)) ?_
        show Ends p e below s _ _ _ T86 (mkF m 91 #[.val (.int i0), .val (.int i1), .val (.int i2), .val (.int z84_0), .val (.int z85_0), .val (.int (-1 : Int32)), .val (.int (0 : Int32)), .unset] [(.int (1 : Int32))])
        exact endN X86 hx hlk hret (by simp) (hb hby at_91) e86 ⟨rfl, N86a⟩ (by decide) (by decide)
      · rcases own_five z85_0 with c | rfl | rfl | rfl | c
        · rw [own_mvr (Or.inl c)]
          show Ends p e below s _ _ _ T86 (mkF m 35 #[.val (.int i0), .val (.int i1), .val (.int i2), .val (.int (-1 : Int32)), .val (.int z85_0), .unset, .unset, .unset] [(.int (-1 : Int32))])
          refine go (fun _ => XS.istore X86.here hx rfl (hb hby at_35) rfl (l' := #[.val (.int i0), .val (.int i1), .val (.int i2), .val (.int (-1 : Int32)), .val (.int z85_0), .val (.int (-1 : Int32)), .unset, .unset]) rfl) ?_
          show Ends p e below s _ _ _ T86 (mkF m 37 #[.val (.int i0), .val (.int i1), .val (.int i2), .val (.int (-1 : Int32)), .val (.int z85_0), .val (.int (-1 : Int32)), .unset, .unset] [])
          refine go (fun _ => XS.iloadN X86.here hx rfl (hb hby at_37) rfl) ?_
          show Ends p e below s _ _ _ T86 (mkF m 38 #[.val (.int i0), .val (.int i1), .val (.int i2), .val (.int (-1 : Int32)), .val (.int z85_0), .val (.int (-1 : Int32)), .unset, .unset] [(.int (-1 : Int32))])
          refine go (fun _ => XT.iconstV X86.here hx rfl (-1 : Int32) (hb hby at_38) (by decide)) ?_
          show Ends p e below s _ _ _ T86 (mkF m 39 #[.val (.int i0), .val (.int i1), .val (.int i2), .val (.int (-1 : Int32)), .val (.int z85_0), .val (.int (-1 : Int32)), .unset, .unset] [(.int (-1 : Int32)), (.int (-1 : Int32))])
          refine go (fun _ => XS.icmpNo X86.here hx rfl (hb hby at_39) rfl (XT.ii_lt_f ((by decide) : ¬ ((-1 : Int32) < (-1 : Int32))))) ?_
          show Ends p e below s _ _ _ T86 (mkF m 42 #[.val (.int i0), .val (.int i1), .val (.int i2), .val (.int (-1 : Int32)), .val (.int z85_0), .val (.int (-1 : Int32)), .unset, .unset] [])
          refine go (fun _ => XS.iloadN X86.here hx rfl (hb hby at_42) rfl) ?_
          show Ends p e below s _ _ _ T86 (mkF m 43 #[.val (.int i0), .val (.int i1), .val (.int i2), .val (.int (-1 : Int32)), .val (.int z85_0), .val (.int (-1 : Int32)), .unset, .unset] [(.int (-1 : Int32))])
          refine go (fun _ => XT.iconstV X86.here hx rfl (1 : Int32) (hb hby at_43) (by decide)) ?_
          show Ends p e below s _ _ _ T86 (mkF m 44 #[.val (.int i0), .val (.int i1), .val (.int i2), .val (.int (-1 : Int32)), .val (.int z85_0), .val (.int (-1 : Int32)), .unset, .unset] [(.int (1 : Int32)), (.int (-1 : Int32))])
          refine go (fun _ => XS.icmpNo X86.here hx rfl (hb hby at_44) rfl (XT.ii_gt_f ((by decide) : ¬ ((1 : Int32) < (-1 : Int32))))) ?_
          show Ends p e below s _ _ _ T86 (mkF m 47 #[.val (.int i0), .val (.int i1), .val (.int i2), .val (.int (-1 : Int32)), .val (.int z85_0), .val (.int (-1 : Int32)), .unset, .unset] [])
          refine go (fun _ => XS.iload X86.here hx rfl (hb hby at_47) rfl) ?_
          show Ends p e below s _ _ _ T86 (mkF m 49 #[.val (.int i0), .val (.int i1), .val (.int i2), .val (.int (-1 : Int32)), .val (.int z85_0), .val (.int (-1 : Int32)), .unset, .unset] [(.int z85_0)])
          refine go (fun _ => XT.iconstV X86.here hx rfl (-1 : Int32) (hb hby at_49) (by decide)) ?_
          show Ends p e below s _ _ _ T86 (mkF m 50 #[.val (.int i0), .val (.int i1), .val (.int i2), .val (.int (-1 : Int32)), .val (.int z85_0), .val (.int (-1 : Int32)), .unset, .unset] [(.int (-1 : Int32)), (.int z85_0)])
          refine go (fun _ => XS.icmpYes X86.here hx rfl (pc0 := 50) (pc' := 72) rfl (hb hby at_50) rfl (XT.ii_lt_t c) (by decide) (by decide)) ?_
          show Ends p e below s _ _ _ T86 (mkF m 72 #[.val (.int i0), .val (.int i1), .val (.int i2), .val (.int (-1 : Int32)), .val (.int z85_0), .val (.int (-1 : Int32)), .unset, .unset] [])
          refine go (fun _ => XT.iconstV X86.here hx rfl (0 : Int32) (hb hby at_72) (by decide)) ?_
          show Ends p e below s _ _ _ T86 (mkF m 73 #[.val (.int i0), .val (.int i1), .val (.int i2), .val (.int (-1 : Int32)), .val (.int z85_0), .val (.int (-1 : Int32)), .unset, .unset] [(.int (0 : Int32))])
          refine go (fun _ => XS.istore X86.here hx rfl (hb hby at_73) rfl (l' := #[.val (.int i0), .val (.int i1), .val (.int i2), .val (.int (-1 : Int32)), .val (.int z85_0), .val (.int (-1 : Int32)), .val (.int (0 : Int32)), .unset]) rfl) ?_
          show Ends p e below s _ _ _ T86 (mkF m 75 #[.val (.int i0), .val (.int i1), .val (.int i2), .val (.int (-1 : Int32)), .val (.int z85_0), .val (.int (-1 : Int32)), .val (.int (0 : Int32)), .unset] [])
          refine go (fun _ => XS.iload X86.here hx rfl (hb hby at_75) rfl) ?_
          show Ends p e below s _ _ _ T86 (mkF m 77 #[.val (.int i0), .val (.int i1), .val (.int i2), .val (.int (-1 : Int32)), .val (.int z85_0), .val (.int (-1 : Int32)), .val (.int (0 : Int32)), .unset] [(.int (0 : Int32))])
          refine go (fun _ => XS.ifNo X86.here hx rfl (hb hby at_77) rfl (XT.i0_ne_f ((by decide) : (0 : Int32) = (0 : Int32)))) ?_
          show Ends p e below s _ _ _ T86 (mkF m 80 #[.val (.int i0), .val (.int i1), .val (.int i2), .val (.int (-1 : Int32)), .val (.int z85_0), .val (.int (-1 : Int32)), .val (.int (0 : Int32)), .unset] [])
          refine go (fun _ => XS.iload X86.here hx rfl (hb hby at_80) rfl) ?_
          show Ends p e below s _ _ _ T86 (mkF m 82 #[.val (.int i0), .val (.int i1), .val (.int i2), .val (.int (-1 : Int32)), .val (.int z85_0), .val (.int (-1 : Int32)), .val (.int (0 : Int32)), .unset] [(.int (-1 : Int32))])
          refine go (fun _ => XT.iconstV X86.here hx rfl (-1 : Int32) (hb hby at_82) (by decide)) ?_
          show Ends p e below s _ _ _ T86 (mkF m 83 #[.val (.int i0), .val (.int i1), .val (.int i2), .val (.int (-1 : Int32)), .val (.int z85_0), .val (.int (-1 : Int32)), .val (.int (0 : Int32)), .unset] [(.int (-1 : Int32)), (.int (-1 : Int32))])
          refine go (fun _ => XS.icmpNo X86.here hx rfl (hb hby at_83) rfl (XT.ii_ne_f ((by decide) : (-1 : Int32) = (-1 : Int32)))) ?_
          show Ends p e below s _ _ _ T86 (mkF m 86 #[.val (.int i0), .val (.int i1), .val (.int i2), .val (.int (-1 : Int32)), .val (.int z85_0), .val (.int (-1 : Int32)), .val (.int (0 : Int32)), .unset] [])
          refine go (fun _ => XT.iconstV X86.here hx rfl (1 : Int32) (hb hby at_86) (by decide)) ?_
          show Ends p e below s _ _ _ T86 (mkF m 87 #[.val (.int i0), .val (.int i1), .val (.int i2), .val (.int (-1 : Int32)), .val (.int z85_0), .val (.int (-1 : Int32)), .val (.int (0 : Int32)), .unset] [(.int (1 : Int32))])
          refine go (fun _ => XS.goto X86.here hx rfl (pc0 := 87) (pc' := 91) rfl (hb hby at_87) (by decide) (by decide)) ?_
          show Ends p e below s _ _ _ T86 (mkF m 91 #[.val (.int i0), .val (.int i1), .val (.int i2), .val (.int (-1 : Int32)), .val (.int z85_0), .val (.int (-1 : Int32)), .val (.int (0 : Int32)), .unset] [(.int (1 : Int32))])
          exact endN X86 hx hlk hret (by simp) (hb hby at_91) e86 ⟨rfl, N86a⟩ (by decide) (by decide)
        · show Ends p e below s _ _ _ T86 (mkF m 35 #[.val (.int i0), .val (.int i1), .val (.int i2), .val (.int (-1 : Int32)), .val (.int (-1 : Int32)), .unset, .unset, .unset] [(.int (6 : Int32))])
          refine go (fun _ => XS.istore X86.here hx rfl (hb hby at_35) rfl (l' := #[.val (.int i0), .val (.int i1), .val (.int i2), .val (.int (-1 : Int32)), .val (.int (-1 : Int32)), .val (.int (6 : Int32)), .unset, .unset]) rfl) ?_
          show Ends p e below s _ _ _ T86 (mkF m 37 #[.val (.int i0), .val (.int i1), .val (.int i2), .val (.int (-1 : Int32)), .val (.int (-1 : Int32)), .val (.int (6 : Int32)), .unset, .unset] [])
          refine go (fun _ => XS.iloadN X86.here hx rfl (hb hby at_37) rfl) ?_
          show Ends p e below s _ _ _ T86 (mkF m 38 #[.val (.int i0), .val (.int i1), .val (.int i2), .val (.int (-1 : Int32)), .val (.int (-1 : Int32)), .val (.int (6 : Int32)), .unset, .unset] [(.int (-1 : Int32))])
          refine go (fun _ => XT.iconstV X86.here hx rfl (-1 : Int32) (hb hby at_38) (by decide)) ?_
          show Ends p e below s _ _ _ T86 (mkF m 39 #[.val (.int i0), .val (.int i1), .val (.int i2), .val (.int (-1 : Int32)), .val (.int (-1 : Int32)), .val (.int (6 : Int32)), .unset, .unset] [(.int (-1 : Int32)), (.int (-1 : Int32))])
          refine go (fun _ => XS.icmpNo X86.here hx rfl (hb hby at_39) rfl (XT.ii_lt_f ((by decide) : ¬ ((-1 : Int32) < (-1 : Int32))))) ?_
          show Ends p e below s _ _ _ T86 (mkF m 42 #[.val (.int i0), .val (.int i1), .val (.int i2), .val (.int (-1 : Int32)), .val (.int (-1 : Int32)), .val (.int (6 : Int32)), .unset, .unset] [])
          refine go (fun _ => XS.iloadN X86.here hx rfl (hb hby at_42) rfl) ?_
          show Ends p e below s _ _ _ T86 (mkF m 43 #[.val (.int i0), .val (.int i1), .val (.int i2), .val (.int (-1 : Int32)), .val (.int (-1 : Int32)), .val (.int (6 : Int32)), .unset, .unset] [(.int (-1 : Int32))])
          refine go (fun _ => XT.iconstV X86.here hx rfl (1 : Int32) (hb hby at_43) (by decide)) ?_
          show Ends p e below s _ _ _ T86 (mkF m 44 #[.val (.int i0), .val (.int i1), .val (.int i2), .val (.int (-1 : Int32)), .val (.int (-1 : Int32)), .val (.int (6 : Int32)), .unset, .unset] [(.int (1 : Int32)), (.int (-1 : Int32))])
          refine go (fun _ => XS.icmpNo X86.here hx rfl (hb hby at_44) rfl (XT.ii_gt_f ((by decide) : ¬ ((1 : Int32) < (-1 : Int32))))) ?_
          show Ends p e below s _ _ _ T86 (mkF m 47 #[.val (.int i0), .val (.int i1), .val (.int i2), .val (.int (-1 : Int32)), .val (.int (-1 : Int32)), .val (.int (6 : Int32)), .unset, .unset] [])
          refine go (fun _ => XS.iload X86.here hx rfl (hb hby at_47) rfl) ?_
          show Ends p e below s _ _ _ T86 (mkF m 49 #[.val (.int i0), .val (.int i1), .val (.int i2), .val (.int (-1 : Int32)), .val (.int (-1 : Int32)), .val (.int (6 : Int32)), .unset, .unset] [(.int (-1 : Int32))])
          refine go (fun _ => XT.iconstV X86.here hx rfl (-1 : Int32) (hb hby at_49) (by decide)) ?_
          show Ends p e below s _ _ _ T86 (mkF m 50 #[.val (.int i0), .val (.int i1), .val (.int i2), .val (.int (-1 : Int32)), .val (.int (-1 : Int32)), .val (.int (6 : Int32)), .unset, .unset] [(.int (-1 : Int32)), (.int (-1 : Int32))])
          refine go (fun _ => XS.icmpNo X86.here hx rfl (hb hby at_50) rfl (XT.ii_lt_f ((by decide) : ¬ ((-1 : Int32) < (-1 : Int32))))) ?_
          show Ends p e below s _ _ _ T86 (mkF m 53 #[.val (.int i0), .val (.int i1), .val (.int i2), .val (.int (-1 : Int32)), .val (.int (-1 : Int32)), .val (.int (6 : Int32)), .unset, .unset] [])
          refine go (fun _ => XS.iload X86.here hx rfl (hb hby at_53) rfl) ?_
          show Ends p e below s _ _ _ T86 (mkF m 55 #[.val (.int i0), .val (.int i1), .val (.int i2), .val (.int (-1 : Int32)), .val (.int (-1 : Int32)), .val (.int (6 : Int32)), .unset, .unset] [(.int (-1 : Int32))])
          refine go (fun _ => XT.iconstV X86.here hx rfl (1 : Int32) (hb hby at_55) (by decide)) ?_
          show Ends p e below s _ _ _ T86 (mkF m 56 #[.val (.int i0), .val (.int i1), .val (.int i2), .val (.int (-1 : Int32)), .val (.int (-1 : Int32)), .val (.int (6 : Int32)), .unset, .unset] [(.int (1 : Int32)), (.int (-1 : Int32))])
          refine go (fun _ => XS.icmpNo X86.here hx rfl (hb hby at_56) rfl (XT.ii_gt_f ((by decide) : ¬ ((1 : Int32) < (-1 : Int32))))) ?_
          show Ends p e below s _ _ _ T86 (mkF m 59 #[.val (.int i0), .val (.int i1), .val (.int i2), .val (.int (-1 : Int32)), .val (.int (-1 : Int32)), .val (.int (6 : Int32)), .unset, .unset] [])
          refine go (fun _ => XS.iloadN X86.here hx rfl (hb hby at_59) rfl) ?_
          show Ends p e below s _ _ _ T86 (mkF m 60 #[.val (.int i0), .val (.int i1), .val (.int i2), .val (.int (-1 : Int32)), .val (.int (-1 : Int32)), .val (.int (6 : Int32)), .unset, .unset] [(.int (-1 : Int32))])
          refine go (fun _ => XS.ifYes X86.here hx rfl (pc0 := 60) (pc' := 68) rfl (hb hby at_60) rfl (XT.i0_ne_t ((by decide) : ¬ ((-1 : Int32) = (0 : Int32)))) (by decide) (by decide)) ?_
          show Ends p e below s _ _ _ T86 (mkF m 68 #[.val (.int i0), .val (.int i1), .val (.int i2), .val (.int (-1 : Int32)), .val (.int (-1 : Int32)), .val (.int (6 : Int32)), .unset, .unset] [])
          refine go (fun _ => XT.iconstV X86.here hx rfl (1 : Int32) (hb hby at_68) (by decide)) ?_
          show Ends p e below s _ _ _ T86 (mkF m 69 #[.val (.int i0), .val (.int i1), .val (.int i2), .val (.int (-1 : Int32)), .val (.int (-1 : Int32)), .val (.int (6 : Int32)), .unset, .unset] [(.int (1 : Int32))])
          refine go (fun _ => XS.goto X86.here hx rfl (pc0 := 69) (pc' := 73) rfl (hb hby at_69) (by decide) (by decide)) ?_
          show Ends p e below s _ _ _ T86 (mkF m 73 #[.val (.int i0), .val (.int i1), .val (.int i2), .val (.int (-1 : Int32)), .val (.int (-1 : Int32)), .val (.int (6 : Int32)), .unset, .unset] [(.int (1 : Int32))])
          refine go (fun _ => XS.istore X86.here hx rfl (hb hby at_73) rfl (l' := #[.val (.int i0), .val (.int i1), .val (.int i2), .val (.int (-1 : Int32)), .val (.int (-1 : Int32)), .val (.int (6 : Int32)), .val (.int (1 : Int32)), .unset]) rfl) ?_
          show Ends p e below s _ _ _ T86 (mkF m 75 #[.val (.int i0), .val (.int i1), .val (.int i2), .val (.int (-1 : Int32)), .val (.int (-1 : Int32)), .val (.int (6 : Int32)), .val (.int (1 : Int32)), .unset] [])
          refine go (fun _ => XS.iload X86.here hx rfl (hb hby at_75) rfl) ?_
          show Ends p e below s _ _ _ T86 (mkF m 77 #[.val (.int i0), .val (.int i1), .val (.int i2), .val (.int (-1 : Int32)), .val (.int (-1 : Int32)), .val (.int (6 : Int32)), .val (.int (1 : Int32)), .unset] [(.int (1 : Int32))])
          refine go (fun _ => XS.ifYes X86.here hx rfl (pc0 := 77) (pc' := 92) rfl (hb hby at_77) rfl (XT.i0_ne_t ((by decide) : ¬ ((1 : Int32) = (0 : Int32)))) (by decide) (by decide)) ?_
          show Ends p e below s _ _ _ T86 (mkF m 92 #[.val (.int i0), .val (.int i1), .val (.int i2), .val (.int (-1 : Int32)), .val (.int (-1 : Int32)), .val (.int (6 : Int32)), .val (.int (1 : Int32)), .unset] [])
          refine go (fun _ => XS.iload X86.here hx rfl (hb hby at_92) rfl) ?_
          show Ends p e below s _ _ _ T86 (mkF m 94 #[.val (.int i0), .val (.int i1), .val (.int i2), .val (.int (-1 : Int32)), .val (.int (-1 : Int32)), .val (.int (6 : Int32)), .val (.int (1 : Int32)), .unset] [(.int (6 : Int32))])
          refine go (fun _ => XS.ifNo X86.here hx rfl (hb hby at_94) rfl (XT.i0_lt_f ((by decide) : ¬ ((6 : Int32) < (0 : Int32))))) ?_
          show Ends p e below s _ _ _ T86 (mkF m 97 #[.val (.int i0), .val (.int i1), .val (.int i2), .val (.int (-1 : Int32)), .val (.int (-1 : Int32)), .val (.int (6 : Int32)), .val (.int (1 : Int32)), .unset] [])
          refine go (fun _ => XS.iload X86.here hx rfl (hb hby at_97) rfl) ?_
          show Ends p e below s _ _ _ T86 (mkF m 99 #[.val (.int i0), .val (.int i1), .val (.int i2), .val (.int (-1 : Int32)), .val (.int (-1 : Int32)), .val (.int (6 : Int32)), .val (.int (1 : Int32)), .unset] [(.int (6 : Int32))])
          refine go (fun _ => XT.bipushV X86.here hx rfl (8 : Int32) (hb hby at_99) (by decide)) ?_
          show Ends p e below s _ _ _ T86 (mkF m 101 #[.val (.int i0), .val (.int i1), .val (.int i2), .val (.int (-1 : Int32)), .val (.int (-1 : Int32)), .val (.int (6 : Int32)), .val (.int (1 : Int32)), .unset] [(.int (8 : Int32)), (.int (6 : Int32))])
          refine go (fun _ => XS.icmpYes X86.here hx rfl (pc0 := 101) (pc' := 106) rfl (hb hby at_101) rfl (XT.ii_lt_t ((by decide) : (6 : Int32) < (8 : Int32))) (by decide) (by decide)) ?_
          show Ends p e below s _ _ _ T86 (mkF m 106 #[.val (.int i0), .val (.int i1), .val (.int i2), .val (.int (-1 : Int32)), .val (.int (-1 : Int32)), .val (.int (6 : Int32)), .val (.int (1 : Int32)), .unset] [])
          refine go (fun _ => XS.iloadN X86.here hx rfl (hb hby at_106) rfl) ?_
          show Ends p e below s _ _ _ T86 (mkF m 107 #[.val (.int i0), .val (.int i1), .val (.int i2), .val (.int (-1 : Int32)), .val (.int (-1 : Int32)), .val (.int (6 : Int32)), .val (.int (1 : Int32)), .unset] [(.int (-1 : Int32))])
          refine go (fun _ => XS.ifNo X86.here hx rfl (hb hby at_107) rfl (XT.i0_eq_f ((by decide) : ¬ ((-1 : Int32) = (0 : Int32))))) ?_
          show Ends p e below s _ _ _ T86 (mkF m 110 #[.val (.int i0), .val (.int i1), .val (.int i2), .val (.int (-1 : Int32)), .val (.int (-1 : Int32)), .val (.int (6 : Int32)), .val (.int (1 : Int32)), .unset] [])
          refine go (fun _ => XS.iload X86.here hx rfl (hb hby at_110) rfl) ?_
          show Ends p e below s _ _ _ T86 (mkF m 112 #[.val (.int i0), .val (.int i1), .val (.int i2), .val (.int (-1 : Int32)), .val (.int (-1 : Int32)), .val (.int (6 : Int32)), .val (.int (1 : Int32)), .unset] [(.int (-1 : Int32))])
          refine go (fun _ => XS.ifNo X86.here hx rfl (hb hby at_112) rfl (XT.i0_eq_f ((by decide) : ¬ ((-1 : Int32) = (0 : Int32))))) ?_
          show Ends p e below s _ _ _ T86 (mkF m 115 #[.val (.int i0), .val (.int i1), .val (.int i2), .val (.int (-1 : Int32)), .val (.int (-1 : Int32)), .val (.int (6 : Int32)), .val (.int (1 : Int32)), .unset] [])
          refine go (fun _ => XT.iconstV X86.here hx rfl (1 : Int32) (hb hby at_115) (by decide)) ?_
          show Ends p e below s _ _ _ T86 (mkF m 116 #[.val (.int i0), .val (.int i1), .val (.int i2), .val (.int (-1 : Int32)), .val (.int (-1 : Int32)), .val (.int (6 : Int32)), .val (.int (1 : Int32)), .unset] [(.int (1 : Int32))])
          refine go (fun _ => XS.goto X86.here hx rfl (pc0 := 116) (pc' := 120) rfl (hb hby at_116) (by decide) (by decide)) ?_
          show Ends p e below s _ _ _ T86 (mkF m 120 #[.val (.int i0), .val (.int i1), .val (.int i2), .val (.int (-1 : Int32)), .val (.int (-1 : Int32)), .val (.int (6 : Int32)), .val (.int (1 : Int32)), .unset] [(.int (1 : Int32))])
          refine go (fun _ => XS.istore X86.here hx rfl (hb hby at_120) rfl (l' := #[.val (.int i0), .val (.int i1), .val (.int i2), .val (.int (-1 : Int32)), .val (.int (-1 : Int32)), .val (.int (6 : Int32)), .val (.int (1 : Int32)), .val (.int (1 : Int32))]) rfl) ?_
          show Ends p e below s _ _ _ T86 (mkF m 122 #[.val (.int i0), .val (.int i1), .val (.int i2), .val (.int (-1 : Int32)), .val (.int (-1 : Int32)), .val (.int (6 : Int32)), .val (.int (1 : Int32)), .val (.int (1 : Int32))] [])
          obtain ⟨T87, X87, e87, s87⟩ := getS2 X86 hx hZ hown (host := "") (Or.inl (hw _ (List.mem_of_getElem? (i := 8) rfl))) Via.refl e86 (Sta.ext O0 SC) (g := (mkF m 122 #[.val (.int i0), .val (.int i1), .val (.int i2), .val (.int (-1 : Int32)), .val (.int (-1 : Int32)), .val (.int (6 : Int32)), .val (.int (1 : Int32)), .val (.int (1 : Int32))] [])) rfl (hb hby at_122)
          refine go s87 ?_
          show Ends p e below s _ _ _ T87 (mkF m 125 #[.val (.int i0), .val (.int i1), .val (.int i2), .val (.int (-1 : Int32)), .val (.int (-1 : Int32)), .val (.int (6 : Int32)), .val (.int (1 : Int32)), .val (.int (1 : Int32))] [(.ref aC)])
          refine go (fun _ => XS.iload X87.here hx rfl (hb hby at_125) rfl) ?_
          show Ends p e below s _ _ _ T87 (mkF m 127 #[.val (.int i0), .val (.int i1), .val (.int i2), .val (.int (-1 : Int32)), .val (.int (-1 : Int32)), .val (.int (6 : Int32)), .val (.int (1 : Int32)), .val (.int (1 : Int32))] [(.int (6 : Int32)), (.ref aC)])
          have F88 := (Arv.ext VC O0)
          obtain ⟨c89, A89, -, S89, M89, H89, -⟩ := id F88
          have B89 := inb_of S89 (j := (6 : Int32)) (by decide)
          refine go (fun _ => X87.iaload hx (j := (6 : Int32)) (v := (.int (-1 : Int32))) (by rw [e87]; exact A89.1) (State.isArrayOf_alike hZ.alike A89.2.1) A89.2.2 B89 (H89.at B89 rfl) (g := (mkF m 127 #[.val (.int i0), .val (.int i1), .val (.int i2), .val (.int (-1 : Int32)), .val (.int (-1 : Int32)), .val (.int (6 : Int32)), .val (.int (1 : Int32)), .val (.int (1 : Int32))] [(.int (6 : Int32)), (.ref aC)])) rfl rfl (hb hby at_127) _) ?_
          show Ends p e below s _ _ _ T87 (mkF m 128 #[.val (.int i0), .val (.int i1), .val (.int i2), .val (.int (-1 : Int32)), .val (.int (-1 : Int32)), .val (.int (6 : Int32)), .val (.int (1 : Int32)), .val (.int (1 : Int32))] [(.int (-1 : Int32))])
          refine go (fun _ => XS.iloadN X87.here hx rfl (hb hby at_128) rfl) ?_
          show Ends p e below s _ _ _ T87 (mkF m 129 #[.val (.int i0), .val (.int i1), .val (.int i2), .val (.int (-1 : Int32)), .val (.int (-1 : Int32)), .val (.int (6 : Int32)), .val (.int (1 : Int32)), .val (.int (1 : Int32))] [(.int (-1 : Int32)), (.int (-1 : Int32))])
          refine go (fun _ => XS.icmpNo X87.here hx rfl (hb hby at_129) rfl (XT.ii_ne_f ((by decide) : (-1 : Int32) = (-1 : Int32)))) ?_
          show Ends p e below s _ _ _ T87 (mkF m 132 #[.val (.int i0), .val (.int i1), .val (.int i2), .val (.int (-1 : Int32)), .val (.int (-1 : Int32)), .val (.int (6 : Int32)), .val (.int (1 : Int32)), .val (.int (1 : Int32))] [])
          obtain ⟨T90, X90, e90, s90⟩ := getS2 X87 hx hZ hown (host := "") (Or.inl (hw _ (List.mem_of_getElem? (i := 9) rfl))) Via.refl e87 (Sta.ext O0 SR) (g := (mkF m 132 #[.val (.int i0), .val (.int i1), .val (.int i2), .val (.int (-1 : Int32)), .val (.int (-1 : Int32)), .val (.int (6 : Int32)), .val (.int (1 : Int32)), .val (.int (1 : Int32))] [])) rfl (hb hby at_132)
          refine go s90 ?_
          show Ends p e below s _ _ _ T90 (mkF m 135 #[.val (.int i0), .val (.int i1), .val (.int i2), .val (.int (-1 : Int32)), .val (.int (-1 : Int32)), .val (.int (6 : Int32)), .val (.int (1 : Int32)), .val (.int (1 : Int32))] [(.ref aR)])
          refine go (fun _ => XS.iload X90.here hx rfl (hb hby at_135) rfl) ?_
          show Ends p e below s _ _ _ T90 (mkF m 137 #[.val (.int i0), .val (.int i1), .val (.int i2), .val (.int (-1 : Int32)), .val (.int (-1 : Int32)), .val (.int (6 : Int32)), .val (.int (1 : Int32)), .val (.int (1 : Int32))] [(.int (6 : Int32)), (.ref aR)])
          have F91 := (Arv.ext VR O0)
          obtain ⟨c92, A92, -, S92, M92, H92, -⟩ := id F91
          have B92 := inb_of S92 (j := (6 : Int32)) (by decide)
          refine go (fun _ => X90.iaload hx (j := (6 : Int32)) (v := (.int (-1 : Int32))) (by rw [e90]; exact A92.1) (State.isArrayOf_alike hZ.alike A92.2.1) A92.2.2 B92 (H92.at B92 rfl) (g := (mkF m 137 #[.val (.int i0), .val (.int i1), .val (.int i2), .val (.int (-1 : Int32)), .val (.int (-1 : Int32)), .val (.int (6 : Int32)), .val (.int (1 : Int32)), .val (.int (1 : Int32))] [(.int (6 : Int32)), (.ref aR)])) rfl rfl (hb hby at_137) _) ?_
          show Ends p e below s _ _ _ T90 (mkF m 138 #[.val (.int i0), .val (.int i1), .val (.int i2), .val (.int (-1 : Int32)), .val (.int (-1 : Int32)), .val (.int (6 : Int32)), .val (.int (1 : Int32)), .val (.int (1 : Int32))] [(.int (-1 : Int32))])
          refine go (fun _ => XS.iload X90.here hx rfl (hb hby at_138) rfl) ?_
          show Ends p e below s _ _ _ T90 (mkF m 140 #[.val (.int i0), .val (.int i1), .val (.int i2), .val (.int (-1 : Int32)), .val (.int (-1 : Int32)), .val (.int (6 : Int32)), .val (.int (1 : Int32)), .val (.int (1 : Int32))] [(.int (-1 : Int32)), (.int (-1 : Int32))])
          refine go (fun _ => XS.icmpNo X90.here hx rfl (hb hby at_140) rfl (XT.ii_ne_f ((by decide) : (-1 : Int32) = (-1 : Int32)))) ?_
          show Ends p e below s _ _ _ T90 (mkF m 143 #[.val (.int i0), .val (.int i1), .val (.int i2), .val (.int (-1 : Int32)), .val (.int (-1 : Int32)), .val (.int (6 : Int32)), .val (.int (1 : Int32)), .val (.int (1 : Int32))] [])
          refine go (fun _ => XS.iload X90.here hx rfl (hb hby at_143) rfl) ?_
          show Ends p e below s _ _ _ T90 (mkF m 145 #[.val (.int i0), .val (.int i1), .val (.int i2), .val (.int (-1 : Int32)), .val (.int (-1 : Int32)), .val (.int (6 : Int32)), .val (.int (1 : Int32)), .val (.int (1 : Int32))] [(.int (6 : Int32))])
          refine go (fun _ => XT.iconstV X90.here hx rfl (4 : Int32) (hb hby at_145) (by decide)) ?_
          show Ends p e below s _ _ _ T90 (mkF m 146 #[.val (.int i0), .val (.int i1), .val (.int i2), .val (.int (-1 : Int32)), .val (.int (-1 : Int32)), .val (.int (6 : Int32)), .val (.int (1 : Int32)), .val (.int (1 : Int32))] [(.int (4 : Int32)), (.int (6 : Int32))])
          refine go (fun _ => XS.icmpNo X90.here hx rfl (hb hby at_146) rfl (XT.ii_lt_f ((by decide) : ¬ ((6 : Int32) < (4 : Int32))))) ?_
          show Ends p e below s _ _ _ T90 (mkF m 149 #[.val (.int i0), .val (.int i1), .val (.int i2), .val (.int (-1 : Int32)), .val (.int (-1 : Int32)), .val (.int (6 : Int32)), .val (.int (1 : Int32)), .val (.int (1 : Int32))] [])
          refine go (fun _ => XT.iconstV X90.here hx rfl (1 : Int32) (hb hby at_149) (by decide)) ?_
          show Ends p e below s _ _ _ T90 (mkF m 150 #[.val (.int i0), .val (.int i1), .val (.int i2), .val (.int (-1 : Int32)), .val (.int (-1 : Int32)), .val (.int (6 : Int32)), .val (.int (1 : Int32)), .val (.int (1 : Int32))] [(.int (1 : Int32))])
          refine go (fun _ => XS.goto X90.here hx rfl (pc0 := 150) (pc' := 154) rfl (hb hby at_150) (by decide) (by decide)) ?_
          show Ends p e below s _ _ _ T90 (mkF m 154 #[.val (.int i0), .val (.int i1), .val (.int i2), .val (.int (-1 : Int32)), .val (.int (-1 : Int32)), .val (.int (6 : Int32)), .val (.int (1 : Int32)), .val (.int (1 : Int32))] [(.int (1 : Int32))])
          refine go (fun _ => XS.iload X90.here hx rfl (hb hby at_154) rfl) ?_
          show Ends p e below s _ _ _ T90 (mkF m 156 #[.val (.int i0), .val (.int i1), .val (.int i2), .val (.int (-1 : Int32)), .val (.int (-1 : Int32)), .val (.int (6 : Int32)), .val (.int (1 : Int32)), .val (.int (1 : Int32))] [(.int (1 : Int32)), (.int (1 : Int32))])
          refine go (fun _ => XS.icmpNo X90.here hx rfl (hb hby at_156) rfl (XT.ii_ne_f ((by decide) : (1 : Int32) = (1 : Int32)))) ?_
          show Ends p e below s _ _ _ T90 (mkF m 159 #[.val (.int i0), .val (.int i1), .val (.int i2), .val (.int (-1 : Int32)), .val (.int (-1 : Int32)), .val (.int (6 : Int32)), .val (.int (1 : Int32)), .val (.int (1 : Int32))] [])
          refine go (fun _ => XT.iconstV X90.here hx rfl (1 : Int32) (hb hby at_159) (by decide)) ?_
          show Ends p e below s _ _ _ T90 (mkF m 160 #[.val (.int i0), .val (.int i1), .val (.int i2), .val (.int (-1 : Int32)), .val (.int (-1 : Int32)), .val (.int (6 : Int32)), .val (.int (1 : Int32)), .val (.int (1 : Int32))] [(.int (1 : Int32))])
          refine go (fun _ => XS.goto X90.here hx rfl (pc0 := 160) (pc' := 164) rfl (hb hby at_160) (by decide) (by decide)) ?_
          show Ends p e below s _ _ _ T90 (mkF m 164 #[.val (.int i0), .val (.int i1), .val (.int i2), .val (.int (-1 : Int32)), .val (.int (-1 : Int32)), .val (.int (6 : Int32)), .val (.int (1 : Int32)), .val (.int (1 : Int32))] [(.int (1 : Int32))])
          exact endN X90 hx hlk hret (by simp) (hb hby at_164) e90 ⟨rfl, N86a⟩ (by decide) (by decide)
        · show Ends p e below s _ _ _ T86 (mkF m 35 #[.val (.int i0), .val (.int i1), .val (.int i2), .val (.int (-1 : Int32)), .val (.int (0 : Int32)), .unset, .unset, .unset] [(.int (2 : Int32))])
          refine go (fun _ => XS.istore X86.here hx rfl (hb hby at_35) rfl (l' := #[.val (.int i0), .val (.int i1), .val (.int i2), .val (.int (-1 : Int32)), .val (.int (0 : Int32)), .val (.int (2 : Int32)), .unset, .unset]) rfl) ?_
          show Ends p e below s _ _ _ T86 (mkF m 37 #[.val (.int i0), .val (.int i1), .val (.int i2), .val (.int (-1 : Int32)), .val (.int (0 : Int32)), .val (.int (2 : Int32)), .unset, .unset] [])
          refine go (fun _ => XS.iloadN X86.here hx rfl (hb hby at_37) rfl) ?_
          show Ends p e below s _ _ _ T86 (mkF m 38 #[.val (.int i0), .val (.int i1), .val (.int i2), .val (.int (-1 : Int32)), .val (.int (0 : Int32)), .val (.int (2 : Int32)), .unset, .unset] [(.int (-1 : Int32))])
          refine go (fun _ => XT.iconstV X86.here hx rfl (-1 : Int32) (hb hby at_38) (by decide)) ?_
          show Ends p e below s _ _ _ T86 (mkF m 39 #[.val (.int i0), .val (.int i1), .val (.int i2), .val (.int (-1 : Int32)), .val (.int (0 : Int32)), .val (.int (2 : Int32)), .unset, .unset] [(.int (-1 : Int32)), (.int (-1 : Int32))])
          refine go (fun _ => XS.icmpNo X86.here hx rfl (hb hby at_39) rfl (XT.ii_lt_f ((by decide) : ¬ ((-1 : Int32) < (-1 : Int32))))) ?_
          show Ends p e below s _ _ _ T86 (mkF m 42 #[.val (.int i0), .val (.int i1), .val (.int i2), .val (.int (-1 : Int32)), .val (.int (0 : Int32)), .val (.int (2 : Int32)), .unset, .unset] [])
          refine go (fun _ => XS.iloadN X86.here hx rfl (hb hby at_42) rfl) ?_
          show Ends p e below s _ _ _ T86 (mkF m 43 #[.val (.int i0), .val (.int i1), .val (.int i2), .val (.int (-1 : Int32)), .val (.int (0 : Int32)), .val (.int (2 : Int32)), .unset, .unset] [(.int (-1 : Int32))])
          refine go (fun _ => XT.iconstV X86.here hx rfl (1 : Int32) (hb hby at_43) (by decide)) ?_
          show Ends p e below s _ _ _ T86 (mkF m 44 #[.val (.int i0), .val (.int i1), .val (.int i2), .val (.int (-1 : Int32)), .val (.int (0 : Int32)), .val (.int (2 : Int32)), .unset, .unset] [(.int (1 : Int32)), (.int (-1 : Int32))])
          refine go (fun _ => XS.icmpNo X86.here hx rfl (hb hby at_44) rfl (XT.ii_gt_f ((by decide) : ¬ ((1 : Int32) < (-1 : Int32))))) ?_
          show Ends p e below s _ _ _ T86 (mkF m 47 #[.val (.int i0), .val (.int i1), .val (.int i2), .val (.int (-1 : Int32)), .val (.int (0 : Int32)), .val (.int (2 : Int32)), .unset, .unset] [])
          refine go (fun _ => XS.iload X86.here hx rfl (hb hby at_47) rfl) ?_
          show Ends p e below s _ _ _ T86 (mkF m 49 #[.val (.int i0), .val (.int i1), .val (.int i2), .val (.int (-1 : Int32)), .val (.int (0 : Int32)), .val (.int (2 : Int32)), .unset, .unset] [(.int (0 : Int32))])
          refine go (fun _ => XT.iconstV X86.here hx rfl (-1 : Int32) (hb hby at_49) (by decide)) ?_
          show Ends p e below s _ _ _ T86 (mkF m 50 #[.val (.int i0), .val (.int i1), .val (.int i2), .val (.int (-1 : Int32)), .val (.int (0 : Int32)), .val (.int (2 : Int32)), .unset, .unset] [(.int (-1 : Int32)), (.int (0 : Int32))])
          refine go (fun _ => XS.icmpNo X86.here hx rfl (hb hby at_50) rfl (XT.ii_lt_f ((by decide) : ¬ ((0 : Int32) < (-1 : Int32))))) ?_
          show Ends p e below s _ _ _ T86 (mkF m 53 #[.val (.int i0), .val (.int i1), .val (.int i2), .val (.int (-1 : Int32)), .val (.int (0 : Int32)), .val (.int (2 : Int32)), .unset, .unset] [])
          refine go (fun _ => XS.iload X86.here hx rfl (hb hby at_53) rfl) ?_
          show Ends p e below s _ _ _ T86 (mkF m 55 #[.val (.int i0), .val (.int i1), .val (.int i2), .val (.int (-1 : Int32)), .val (.int (0 : Int32)), .val (.int (2 : Int32)), .unset, .unset] [(.int (0 : Int32))])
          refine go (fun _ => XT.iconstV X86.here hx rfl (1 : Int32) (hb hby at_55) (by decide)) ?_
          show Ends p e below s _ _ _ T86 (mkF m 56 #[.val (.int i0), .val (.int i1), .val (.int i2), .val (.int (-1 : Int32)), .val (.int (0 : Int32)), .val (.int (2 : Int32)), .unset, .unset] [(.int (1 : Int32)), (.int (0 : Int32))])
          refine go (fun _ => XS.icmpNo X86.here hx rfl (hb hby at_56) rfl (XT.ii_gt_f ((by decide) : ¬ ((1 : Int32) < (0 : Int32))))) ?_
          show Ends p e below s _ _ _ T86 (mkF m 59 #[.val (.int i0), .val (.int i1), .val (.int i2), .val (.int (-1 : Int32)), .val (.int (0 : Int32)), .val (.int (2 : Int32)), .unset, .unset] [])
          refine go (fun _ => XS.iloadN X86.here hx rfl (hb hby at_59) rfl) ?_
          show Ends p e below s _ _ _ T86 (mkF m 60 #[.val (.int i0), .val (.int i1), .val (.int i2), .val (.int (-1 : Int32)), .val (.int (0 : Int32)), .val (.int (2 : Int32)), .unset, .unset] [(.int (-1 : Int32))])
          refine go (fun _ => XS.ifYes X86.here hx rfl (pc0 := 60) (pc' := 68) rfl (hb hby at_60) rfl (XT.i0_ne_t ((by decide) : ¬ ((-1 : Int32) = (0 : Int32)))) (by decide) (by decide)) ?_
          show Ends p e below s _ _ _ T86 (mkF m 68 #[.val (.int i0), .val (.int i1), .val (.int i2), .val (.int (-1 : Int32)), .val (.int (0 : Int32)), .val (.int (2 : Int32)), .unset, .unset] [])
          refine go (fun _ => XT.iconstV X86.here hx rfl (1 : Int32) (hb hby at_68) (by decide)) ?_
          show Ends p e below s _ _ _ T86 (mkF m 69 #[.val (.int i0), .val (.int i1), .val (.int i2), .val (.int (-1 : Int32)), .val (.int (0 : Int32)), .val (.int (2 : Int32)), .unset, .unset] [(.int (1 : Int32))])
          refine go (fun _ => XS.goto X86.here hx rfl (pc0 := 69) (pc' := 73) rfl (hb hby at_69) (by decide) (by decide)) ?_
          show Ends p e below s _ _ _ T86 (mkF m 73 #[.val (.int i0), .val (.int i1), .val (.int i2), .val (.int (-1 : Int32)), .val (.int (0 : Int32)), .val (.int (2 : Int32)), .unset, .unset] [(.int (1 : Int32))])
          refine go (fun _ => XS.istore X86.here hx rfl (hb hby at_73) rfl (l' := #[.val (.int i0), .val (.int i1), .val (.int i2), .val (.int (-1 : Int32)), .val (.int (0 : Int32)), .val (.int (2 : Int32)), .val (.int (1 : Int32)), .unset]) rfl) ?_
          show Ends p e below s _ _ _ T86 (mkF m 75 #[.val (.int i0), .val (.int i1), .val (.int i2), .val (.int (-1 : Int32)), .val (.int (0 : Int32)), .val (.int (2 : Int32)), .val (.int (1 : Int32)), .unset] [])
          refine go (fun _ => XS.iload X86.here hx rfl (hb hby at_75) rfl) ?_
          show Ends p e below s _ _ _ T86 (mkF m 77 #[.val (.int i0), .val (.int i1), .val (.int i2), .val (.int (-1 : Int32)), .val (.int (0 : Int32)), .val (.int (2 : Int32)), .val (.int (1 : Int32)), .unset] [(.int (1 : Int32))])
          refine go (fun _ => XS.ifYes X86.here hx rfl (pc0 := 77) (pc' := 92) rfl (hb hby at_77) rfl (XT.i0_ne_t ((by decide) : ¬ ((1 : Int32) = (0 : Int32)))) (by decide) (by decide)) ?_
          show Ends p e below s _ _ _ T86 (mkF m 92 #[.val (.int i0), .val (.int i1), .val (.int i2), .val (.int (-1 : Int32)), .val (.int (0 : Int32)), .val (.int (2 : Int32)), .val (.int (1 : Int32)), .unset] [])
          refine go (fun _ => XS.iload X86.here hx rfl (hb hby at_92) rfl) ?_
          show Ends p e below s _ _ _ T86 (mkF m 94 #[.val (.int i0), .val (.int i1), .val (.int i2), .val (.int (-1 : Int32)), .val (.int (0 : Int32)), .val (.int (2 : Int32)), .val (.int (1 : Int32)), .unset] [(.int (2 : Int32))])
          refine go (fun _ => XS.ifNo X86.here hx rfl (hb hby at_94) rfl (XT.i0_lt_f ((by decide) : ¬ ((2 : Int32) < (0 : Int32))))) ?_
          show Ends p e below s _ _ _ T86 (mkF m 97 #[.val (.int i0), .val (.int i1), .val (.int i2), .val (.int (-1 : Int32)), .val (.int (0 : Int32)), .val (.int (2 : Int32)), .val (.int (1 : Int32)), .unset] [])
          refine go (fun _ => XS.iload X86.here hx rfl (hb hby at_97) rfl) ?_
          show Ends p e below s _ _ _ T86 (mkF m 99 #[.val (.int i0), .val (.int i1), .val (.int i2), .val (.int (-1 : Int32)), .val (.int (0 : Int32)), .val (.int (2 : Int32)), .val (.int (1 : Int32)), .unset] [(.int (2 : Int32))])
          refine go (fun _ => XT.bipushV X86.here hx rfl (8 : Int32) (hb hby at_99) (by decide)) ?_
          show Ends p e below s _ _ _ T86 (mkF m 101 #[.val (.int i0), .val (.int i1), .val (.int i2), .val (.int (-1 : Int32)), .val (.int (0 : Int32)), .val (.int (2 : Int32)), .val (.int (1 : Int32)), .unset] [(.int (8 : Int32)), (.int (2 : Int32))])
          refine go (fun _ => XS.icmpYes X86.here hx rfl (pc0 := 101) (pc' := 106) rfl (hb hby at_101) rfl (XT.ii_lt_t ((by decide) : (2 : Int32) < (8 : Int32))) (by decide) (by decide)) ?_
          show Ends p e below s _ _ _ T86 (mkF m 106 #[.val (.int i0), .val (.int i1), .val (.int i2), .val (.int (-1 : Int32)), .val (.int (0 : Int32)), .val (.int (2 : Int32)), .val (.int (1 : Int32)), .unset] [])
          refine go (fun _ => XS.iloadN X86.here hx rfl (hb hby at_106) rfl) ?_
          show Ends p e below s _ _ _ T86 (mkF m 107 #[.val (.int i0), .val (.int i1), .val (.int i2), .val (.int (-1 : Int32)), .val (.int (0 : Int32)), .val (.int (2 : Int32)), .val (.int (1 : Int32)), .unset] [(.int (-1 : Int32))])
          refine go (fun _ => XS.ifNo X86.here hx rfl (hb hby at_107) rfl (XT.i0_eq_f ((by decide) : ¬ ((-1 : Int32) = (0 : Int32))))) ?_
          show Ends p e below s _ _ _ T86 (mkF m 110 #[.val (.int i0), .val (.int i1), .val (.int i2), .val (.int (-1 : Int32)), .val (.int (0 : Int32)), .val (.int (2 : Int32)), .val (.int (1 : Int32)), .unset] [])
          refine go (fun _ => XS.iload X86.here hx rfl (hb hby at_110) rfl) ?_
          show Ends p e below s _ _ _ T86 (mkF m 112 #[.val (.int i0), .val (.int i1), .val (.int i2), .val (.int (-1 : Int32)), .val (.int (0 : Int32)), .val (.int (2 : Int32)), .val (.int (1 : Int32)), .unset] [(.int (0 : Int32))])
          refine go (fun _ => XS.ifYes X86.here hx rfl (pc0 := 112) (pc' := 119) rfl (hb hby at_112) rfl (XT.i0_eq_t ((by decide) : (0 : Int32) = (0 : Int32))) (by decide) (by decide)) ?_
          show Ends p e below s _ _ _ T86 (mkF m 119 #[.val (.int i0), .val (.int i1), .val (.int i2), .val (.int (-1 : Int32)), .val (.int (0 : Int32)), .val (.int (2 : Int32)), .val (.int (1 : Int32)), .unset] [])
          refine go (fun _ => XT.iconstV X86.here hx rfl (0 : Int32) (hb hby at_119) (by decide)) ?_
          show Ends p e below s _ _ _ T86 (mkF m 120 #[.val (.int i0), .val (.int i1), .val (.int i2), .val (.int (-1 : Int32)), .val (.int (0 : Int32)), .val (.int (2 : Int32)), .val (.int (1 : Int32)), .unset] [(.int (0 : Int32))])
          refine go (fun _ => XS.istore X86.here hx rfl (hb hby at_120) rfl (l' := #[.val (.int i0), .val (.int i1), .val (.int i2), .val (.int (-1 : Int32)), .val (.int (0 : Int32)), .val (.int (2 : Int32)), .val (.int (1 : Int32)), .val (.int (0 : Int32))]) rfl) ?_
          show Ends p e below s _ _ _ T86 (mkF m 122 #[.val (.int i0), .val (.int i1), .val (.int i2), .val (.int (-1 : Int32)), .val (.int (0 : Int32)), .val (.int (2 : Int32)), .val (.int (1 : Int32)), .val (.int (0 : Int32))] [])
          obtain ⟨T93, X93, e93, s93⟩ := getS2 X86 hx hZ hown (host := "") (Or.inl (hw _ (List.mem_of_getElem? (i := 8) rfl))) Via.refl e86 (Sta.ext O0 SC) (g := (mkF m 122 #[.val (.int i0), .val (.int i1), .val (.int i2), .val (.int (-1 : Int32)), .val (.int (0 : Int32)), .val (.int (2 : Int32)), .val (.int (1 : Int32)), .val (.int (0 : Int32))] [])) rfl (hb hby at_122)
          refine go s93 ?_
          show Ends p e below s _ _ _ T93 (mkF m 125 #[.val (.int i0), .val (.int i1), .val (.int i2), .val (.int (-1 : Int32)), .val (.int (0 : Int32)), .val (.int (2 : Int32)), .val (.int (1 : Int32)), .val (.int (0 : Int32))] [(.ref aC)])
          refine go (fun _ => XS.iload X93.here hx rfl (hb hby at_125) rfl) ?_
          show Ends p e below s _ _ _ T93 (mkF m 127 #[.val (.int i0), .val (.int i1), .val (.int i2), .val (.int (-1 : Int32)), .val (.int (0 : Int32)), .val (.int (2 : Int32)), .val (.int (1 : Int32)), .val (.int (0 : Int32))] [(.int (2 : Int32)), (.ref aC)])
          have F94 := (Arv.ext VC O0)
          obtain ⟨c95, A95, -, S95, M95, H95, -⟩ := id F94
          have B95 := inb_of S95 (j := (2 : Int32)) (by decide)
          refine go (fun _ => X93.iaload hx (j := (2 : Int32)) (v := (.int (-1 : Int32))) (by rw [e93]; exact A95.1) (State.isArrayOf_alike hZ.alike A95.2.1) A95.2.2 B95 (H95.at B95 rfl) (g := (mkF m 127 #[.val (.int i0), .val (.int i1), .val (.int i2), .val (.int (-1 : Int32)), .val (.int (0 : Int32)), .val (.int (2 : Int32)), .val (.int (1 : Int32)), .val (.int (0 : Int32))] [(.int (2 : Int32)), (.ref aC)])) rfl rfl (hb hby at_127) _) ?_
          show Ends p e below s _ _ _ T93 (mkF m 128 #[.val (.int i0), .val (.int i1), .val (.int i2), .val (.int (-1 : Int32)), .val (.int (0 : Int32)), .val (.int (2 : Int32)), .val (.int (1 : Int32)), .val (.int (0 : Int32))] [(.int (-1 : Int32))])
          refine go (fun _ => XS.iloadN X93.here hx rfl (hb hby at_128) rfl) ?_
          show Ends p e below s _ _ _ T93 (mkF m 129 #[.val (.int i0), .val (.int i1), .val (.int i2), .val (.int (-1 : Int32)), .val (.int (0 : Int32)), .val (.int (2 : Int32)), .val (.int (1 : Int32)), .val (.int (0 : Int32))] [(.int (-1 : Int32)), (.int (-1 : Int32))])
          refine go (fun _ => XS.icmpNo X93.here hx rfl (hb hby at_129) rfl (XT.ii_ne_f ((by decide) : (-1 : Int32) = (-1 : Int32)))) ?_
          show Ends p e below s _ _ _ T93 (mkF m 132 #[.val (.int i0), .val (.int i1), .val (.int i2), .val (.int (-1 : Int32)), .val (.int (0 : Int32)), .val (.int (2 : Int32)), .val (.int (1 : Int32)), .val (.int (0 : Int32))] [])
          obtain ⟨T96, X96, e96, s96⟩ := getS2 X93 hx hZ hown (host := "") (Or.inl (hw _ (List.mem_of_getElem? (i := 9) rfl))) Via.refl e93 (Sta.ext O0 SR) (g := (mkF m 132 #[.val (.int i0), .val (.int i1), .val (.int i2), .val (.int (-1 : Int32)), .val (.int (0 : Int32)), .val (.int (2 : Int32)), .val (.int (1 : Int32)), .val (.int (0 : Int32))] [])) rfl (hb hby at_132)
          refine go s96 ?_
          show Ends p e below s _ _ _ T96 (mkF m 135 #[.val (.int i0), .val (.int i1), .val (.int i2), .val (.int (-1 : Int32)), .val (.int (0 : Int32)), .val (.int (2 : Int32)), .val (.int (1 : Int32)), .val (.int (0 : Int32))] [(.ref aR)])
          refine go (fun _ => XS.iload X96.here hx rfl (hb hby at_135) rfl) ?_
          show Ends p e below s _ _ _ T96 (mkF m 137 #[.val (.int i0), .val (.int i1), .val (.int i2), .val (.int (-1 : Int32)), .val (.int (0 : Int32)), .val (.int (2 : Int32)), .val (.int (1 : Int32)), .val (.int (0 : Int32))] [(.int (2 : Int32)), (.ref aR)])
          have F97 := (Arv.ext VR O0)
          obtain ⟨c98, A98, -, S98, M98, H98, -⟩ := id F97
          have B98 := inb_of S98 (j := (2 : Int32)) (by decide)
          refine go (fun _ => X96.iaload hx (j := (2 : Int32)) (v := (.int (0 : Int32))) (by rw [e96]; exact A98.1) (State.isArrayOf_alike hZ.alike A98.2.1) A98.2.2 B98 (H98.at B98 rfl) (g := (mkF m 137 #[.val (.int i0), .val (.int i1), .val (.int i2), .val (.int (-1 : Int32)), .val (.int (0 : Int32)), .val (.int (2 : Int32)), .val (.int (1 : Int32)), .val (.int (0 : Int32))] [(.int (2 : Int32)), (.ref aR)])) rfl rfl (hb hby at_137) _) ?_
          show Ends p e below s _ _ _ T96 (mkF m 138 #[.val (.int i0), .val (.int i1), .val (.int i2), .val (.int (-1 : Int32)), .val (.int (0 : Int32)), .val (.int (2 : Int32)), .val (.int (1 : Int32)), .val (.int (0 : Int32))] [(.int (0 : Int32))])
          refine go (fun _ => XS.iload X96.here hx rfl (hb hby at_138) rfl) ?_
          show Ends p e below s _ _ _ T96 (mkF m 140 #[.val (.int i0), .val (.int i1), .val (.int i2), .val (.int (-1 : Int32)), .val (.int (0 : Int32)), .val (.int (2 : Int32)), .val (.int (1 : Int32)), .val (.int (0 : Int32))] [(.int (0 : Int32)), (.int (0 : Int32))])
          refine go (fun _ => XS.icmpNo X96.here hx rfl (hb hby at_140) rfl (XT.ii_ne_f ((by decide) : (0 : Int32) = (0 : Int32)))) ?_
          show Ends p e below s _ _ _ T96 (mkF m 143 #[.val (.int i0), .val (.int i1), .val (.int i2), .val (.int (-1 : Int32)), .val (.int (0 : Int32)), .val (.int (2 : Int32)), .val (.int (1 : Int32)), .val (.int (0 : Int32))] [])
          refine go (fun _ => XS.iload X96.here hx rfl (hb hby at_143) rfl) ?_
          show Ends p e below s _ _ _ T96 (mkF m 145 #[.val (.int i0), .val (.int i1), .val (.int i2), .val (.int (-1 : Int32)), .val (.int (0 : Int32)), .val (.int (2 : Int32)), .val (.int (1 : Int32)), .val (.int (0 : Int32))] [(.int (2 : Int32))])
          refine go (fun _ => XT.iconstV X96.here hx rfl (4 : Int32) (hb hby at_145) (by decide)) ?_
          show Ends p e below s _ _ _ T96 (mkF m 146 #[.val (.int i0), .val (.int i1), .val (.int i2), .val (.int (-1 : Int32)), .val (.int (0 : Int32)), .val (.int (2 : Int32)), .val (.int (1 : Int32)), .val (.int (0 : Int32))] [(.int (4 : Int32)), (.int (2 : Int32))])
          refine go (fun _ => XS.icmpYes X96.here hx rfl (pc0 := 146) (pc' := 153) rfl (hb hby at_146) rfl (XT.ii_lt_t ((by decide) : (2 : Int32) < (4 : Int32))) (by decide) (by decide)) ?_
          show Ends p e below s _ _ _ T96 (mkF m 153 #[.val (.int i0), .val (.int i1), .val (.int i2), .val (.int (-1 : Int32)), .val (.int (0 : Int32)), .val (.int (2 : Int32)), .val (.int (1 : Int32)), .val (.int (0 : Int32))] [])
          refine go (fun _ => XT.iconstV X96.here hx rfl (0 : Int32) (hb hby at_153) (by decide)) ?_
          show Ends p e below s _ _ _ T96 (mkF m 154 #[.val (.int i0), .val (.int i1), .val (.int i2), .val (.int (-1 : Int32)), .val (.int (0 : Int32)), .val (.int (2 : Int32)), .val (.int (1 : Int32)), .val (.int (0 : Int32))] [(.int (0 : Int32))])
          refine go (fun _ => XS.iload X96.here hx rfl (hb hby at_154) rfl) ?_
          show Ends p e below s _ _ _ T96 (mkF m 156 #[.val (.int i0), .val (.int i1), .val (.int i2), .val (.int (-1 : Int32)), .val (.int (0 : Int32)), .val (.int (2 : Int32)), .val (.int (1 : Int32)), .val (.int (0 : Int32))] [(.int (0 : Int32)), (.int (0 : Int32))])
          refine go (fun _ => XS.icmpNo X96.here hx rfl (hb hby at_156) rfl (XT.ii_ne_f ((by decide) : (0 : Int32) = (0 : Int32)))) ?_
          show Ends p e below s _ _ _ T96 (mkF m 159 #[.val (.int i0), .val (.int i1), .val (.int i2), .val (.int (-1 : Int32)), .val (.int (0 : Int32)), .val (.int (2 : Int32)), .val (.int (1 : Int32)), .val (.int (0 : Int32))] [])
          refine go (fun _ => XT.iconstV X96.here hx rfl (1 : Int32) (hb hby at_159) (by decide)) ?_
          show Ends p e below s _ _ _ T96 (mkF m 160 #[.val (.int i0), .val (.int i1), .val (.int i2), .val (.int (-1 : Int32)), .val (.int (0 : Int32)), .val (.int (2 : Int32)), .val (.int (1 : Int32)), .val (.int (0 : Int32))] [(.int (1 : Int32))])
          refine go (fun _ => XS.goto X96.here hx rfl (pc0 := 160) (pc' := 164) rfl (hb hby at_160) (by decide) (by decide)) ?_
          show Ends p e below s _ _ _ T96 (mkF m 164 #[.val (.int i0), .val (.int i1), .val (.int i2), .val (.int (-1 : Int32)), .val (.int (0 : Int32)), .val (.int (2 : Int32)), .val (.int (1 : Int32)), .val (.int (0 : Int32))] [(.int (1 : Int32))])
          exact endN X96 hx hlk hret (by simp) (hb hby at_164) e96 ⟨rfl, N86a⟩ (by decide) (by decide)
        · show Ends p e below s _ _ _ T86 (mkF m 35 #[.val (.int i0), .val (.int i1), .val (.int i2), .val (.int (-1 : Int32)), .val (.int (1 : Int32)), .unset, .unset, .unset] [(.int (5 : Int32))])
          refine go (fun _ => XS.istore X86.here hx rfl (hb hby at_35) rfl (l' := #[.val (.int i0), .val (.int i1), .val (.int i2), .val (.int (-1 : Int32)), .val (.int (1 : Int32)), .val (.int (5 : Int32)), .unset, .unset]) rfl) ?_
          show Ends p e below s _ _ _ T86 (mkF m 37 #[.val (.int i0), .val (.int i1), .val (.int i2), .val (.int (-1 : Int32)), .val (.int (1 : Int32)), .val (.int (5 : Int32)), .unset, .unset] [])
          refine go (fun _ => XS.iloadN X86.here hx rfl (hb hby at_37) rfl) ?_
          show Ends p e below s _ _ _ T86 (mkF m 38 #[.val (.int i0), .val (.int i1), .val (.int i2), .val (.int (-1 : Int32)), .val (.int (1 : Int32)), .val (.int (5 : Int32)), .unset, .unset] [(.int (-1 : Int32))])
          refine go (fun _ => XT.iconstV X86.here hx rfl (-1 : Int32) (hb hby at_38) (by decide)) ?_
          show Ends p e below s _ _ _ T86 (mkF m 39 #[.val (.int i0), .val (.int i1), .val (.int i2), .val (.int (-1 : Int32)), .val (.int (1 : Int32)), .val (.int (5 : Int32)), .unset, .unset] [(.int (-1 : Int32)), (.int (-1 : Int32))])
          refine go (fun _ => XS.icmpNo X86.here hx rfl (hb hby at_39) rfl (XT.ii_lt_f ((by decide) : ¬ ((-1 : Int32) < (-1 : Int32))))) ?_
          show Ends p e below s _ _ _ T86 (mkF m 42 #[.val (.int i0), .val (.int i1), .val (.int i2), .val (.int (-1 : Int32)), .val (.int (1 : Int32)), .val (.int (5 : Int32)), .unset, .unset] [])
          refine go (fun _ => XS.iloadN X86.here hx rfl (hb hby at_42) rfl) ?_
          show Ends p e below s _ _ _ T86 (mkF m 43 #[.val (.int i0), .val (.int i1), .val (.int i2), .val (.int (-1 : Int32)), .val (.int (1 : Int32)), .val (.int (5 : Int32)), .unset, .unset] [(.int (-1 : Int32))])
          refine go (fun _ => XT.iconstV X86.here hx rfl (1 : Int32) (hb hby at_43) (by decide)) ?_
          show Ends p e below s _ _ _ T86 (mkF m 44 #[.val (.int i0), .val (.int i1), .val (.int i2), .val (.int (-1 : Int32)), .val (.int (1 : Int32)), .val (.int (5 : Int32)), .unset, .unset] [(.int (1 : Int32)), (.int (-1 : Int32))])
          refine go (fun _ => XS.icmpNo X86.here hx rfl (hb hby at_44) rfl (XT.ii_gt_f ((by decide) : ¬ ((1 : Int32) < (-1 : Int32))))) ?_
          show Ends p e below s _ _ _ T86 (mkF m 47 #[.val (.int i0), .val (.int i1), .val (.int i2), .val (.int (-1 : Int32)), .val (.int (1 : Int32)), .val (.int (5 : Int32)), .unset, .unset] [])
          refine go (fun _ => XS.iload X86.here hx rfl (hb hby at_47) rfl) ?_
          show Ends p e below s _ _ _ T86 (mkF m 49 #[.val (.int i0), .val (.int i1), .val (.int i2), .val (.int (-1 : Int32)), .val (.int (1 : Int32)), .val (.int (5 : Int32)), .unset, .unset] [(.int (1 : Int32))])
          refine go (fun _ => XT.iconstV X86.here hx rfl (-1 : Int32) (hb hby at_49) (by decide)) ?_
          show Ends p e below s _ _ _ T86 (mkF m 50 #[.val (.int i0), .val (.int i1), .val (.int i2), .val (.int (-1 : Int32)), .val (.int (1 : Int32)), .val (.int (5 : Int32)), .unset, .unset] [(.int (-1 : Int32)), (.int (1 : Int32))])
          refine go (fun _ => XS.icmpNo X86.here hx rfl (hb hby at_50) rfl (XT.ii_lt_f ((by decide) : ¬ ((1 : Int32) < (-1 : Int32))))) ?_
          show Ends p e below s _ _ _ T86 (mkF m 53 #[.val (.int i0), .val (.int i1), .val (.int i2), .val (.int (-1 : Int32)), .val (.int (1 : Int32)), .val (.int (5 : Int32)), .unset, .unset] [])
          refine go (fun _ => XS.iload X86.here hx rfl (hb hby at_53) rfl) ?_
          show Ends p e below s _ _ _ T86 (mkF m 55 #[.val (.int i0), .val (.int i1), .val (.int i2), .val (.int (-1 : Int32)), .val (.int (1 : Int32)), .val (.int (5 : Int32)), .unset, .unset] [(.int (1 : Int32))])
          refine go (fun _ => XT.iconstV X86.here hx rfl (1 : Int32) (hb hby at_55) (by decide)) ?_
          show Ends p e below s _ _ _ T86 (mkF m 56 #[.val (.int i0), .val (.int i1), .val (.int i2), .val (.int (-1 : Int32)), .val (.int (1 : Int32)), .val (.int (5 : Int32)), .unset, .unset] [(.int (1 : Int32)), (.int (1 : Int32))])
          refine go (fun _ => XS.icmpNo X86.here hx rfl (hb hby at_56) rfl (XT.ii_gt_f ((by decide) : ¬ ((1 : Int32) < (1 : Int32))))) ?_
          show Ends p e below s _ _ _ T86 (mkF m 59 #[.val (.int i0), .val (.int i1), .val (.int i2), .val (.int (-1 : Int32)), .val (.int (1 : Int32)), .val (.int (5 : Int32)), .unset, .unset] [])
          refine go (fun _ => XS.iloadN X86.here hx rfl (hb hby at_59) rfl) ?_
          show Ends p e below s _ _ _ T86 (mkF m 60 #[.val (.int i0), .val (.int i1), .val (.int i2), .val (.int (-1 : Int32)), .val (.int (1 : Int32)), .val (.int (5 : Int32)), .unset, .unset] [(.int (-1 : Int32))])
          refine go (fun _ => XS.ifYes X86.here hx rfl (pc0 := 60) (pc' := 68) rfl (hb hby at_60) rfl (XT.i0_ne_t ((by decide) : ¬ ((-1 : Int32) = (0 : Int32)))) (by decide) (by decide)) ?_
          show Ends p e below s _ _ _ T86 (mkF m 68 #[.val (.int i0), .val (.int i1), .val (.int i2), .val (.int (-1 : Int32)), .val (.int (1 : Int32)), .val (.int (5 : Int32)), .unset, .unset] [])
          refine go (fun _ => XT.iconstV X86.here hx rfl (1 : Int32) (hb hby at_68) (by decide)) ?_
          show Ends p e below s _ _ _ T86 (mkF m 69 #[.val (.int i0), .val (.int i1), .val (.int i2), .val (.int (-1 : Int32)), .val (.int (1 : Int32)), .val (.int (5 : Int32)), .unset, .unset] [(.int (1 : Int32))])
          refine go (fun _ => XS.goto X86.here hx rfl (pc0 := 69) (pc' := 73) rfl (hb hby at_69) (by decide) (by decide)) ?_
          show Ends p e below s _ _ _ T86 (mkF m 73 #[.val (.int i0), .val (.int i1), .val (.int i2), .val (.int (-1 : Int32)), .val (.int (1 : Int32)), .val (.int (5 : Int32)), .unset, .unset] [(.int (1 : Int32))])
          refine go (fun _ => XS.istore X86.here hx rfl (hb hby at_73) rfl (l' := #[.val (.int i0), .val (.int i1), .val (.int i2), .val (.int (-1 : Int32)), .val (.int (1 : Int32)), .val (.int (5 : Int32)), .val (.int (1 : Int32)), .unset]) rfl) ?_
          show Ends p e below s _ _ _ T86 (mkF m 75 #[.val (.int i0), .val (.int i1), .val (.int i2), .val (.int (-1 : Int32)), .val (.int (1 : Int32)), .val (.int (5 : Int32)), .val (.int (1 : Int32)), .unset] [])
          refine go (fun _ => XS.iload X86.here hx rfl (hb hby at_75) rfl) ?_
          show Ends p e below s _ _ _ T86 (mkF m 77 #[.val (.int i0), .val (.int i1), .val (.int i2), .val (.int (-1 : Int32)), .val (.int (1 : Int32)), .val (.int (5 : Int32)), .val (.int (1 : Int32)), .unset] [(.int (1 : Int32))])
          refine go (fun _ => XS.ifYes X86.here hx rfl (pc0 := 77) (pc' := 92) rfl (hb hby at_77) rfl (XT.i0_ne_t ((by decide) : ¬ ((1 : Int32) = (0 : Int32)))) (by decide) (by decide)) ?_
          show Ends p e below s _ _ _ T86 (mkF m 92 #[.val (.int i0), .val (.int i1), .val (.int i2), .val (.int (-1 : Int32)), .val (.int (1 : Int32)), .val (.int (5 : Int32)), .val (.int (1 : Int32)), .unset] [])
          refine go (fun _ => XS.iload X86.here hx rfl (hb hby at_92) rfl) ?_
          show Ends p e below s _ _ _ T86 (mkF m 94 #[.val (.int i0), .val (.int i1), .val (.int i2), .val (.int (-1 : Int32)), .val (.int (1 : Int32)), .val (.int (5 : Int32)), .val (.int (1 : Int32)), .unset] [(.int (5 : Int32))])
          refine go (fun _ => XS.ifNo X86.here hx rfl (hb hby at_94) rfl (XT.i0_lt_f ((by decide) : ¬ ((5 : Int32) < (0 : Int32))))) ?_
          show Ends p e below s _ _ _ T86 (mkF m 97 #[.val (.int i0), .val (.int i1), .val (.int i2), .val (.int (-1 : Int32)), .val (.int (1 : Int32)), .val (.int (5 : Int32)), .val (.int (1 : Int32)), .unset] [])
          refine go (fun _ => XS.iload X86.here hx rfl (hb hby at_97) rfl) ?_
          show Ends p e below s _ _ _ T86 (mkF m 99 #[.val (.int i0), .val (.int i1), .val (.int i2), .val (.int (-1 : Int32)), .val (.int (1 : Int32)), .val (.int (5 : Int32)), .val (.int (1 : Int32)), .unset] [(.int (5 : Int32))])
          refine go (fun _ => XT.bipushV X86.here hx rfl (8 : Int32) (hb hby at_99) (by decide)) ?_
          show Ends p e below s _ _ _ T86 (mkF m 101 #[.val (.int i0), .val (.int i1), .val (.int i2), .val (.int (-1 : Int32)), .val (.int (1 : Int32)), .val (.int (5 : Int32)), .val (.int (1 : Int32)), .unset] [(.int (8 : Int32)), (.int (5 : Int32))])
          refine go (fun _ => XS.icmpYes X86.here hx rfl (pc0 := 101) (pc' := 106) rfl (hb hby at_101) rfl (XT.ii_lt_t ((by decide) : (5 : Int32) < (8 : Int32))) (by decide) (by decide)) ?_
          show Ends p e below s _ _ _ T86 (mkF m 106 #[.val (.int i0), .val (.int i1), .val (.int i2), .val (.int (-1 : Int32)), .val (.int (1 : Int32)), .val (.int (5 : Int32)), .val (.int (1 : Int32)), .unset] [])
          refine go (fun _ => XS.iloadN X86.here hx rfl (hb hby at_106) rfl) ?_
          show Ends p e below s _ _ _ T86 (mkF m 107 #[.val (.int i0), .val (.int i1), .val (.int i2), .val (.int (-1 : Int32)), .val (.int (1 : Int32)), .val (.int (5 : Int32)), .val (.int (1 : Int32)), .unset] [(.int (-1 : Int32))])
          refine go (fun _ => XS.ifNo X86.here hx rfl (hb hby at_107) rfl (XT.i0_eq_f ((by decide) : ¬ ((-1 : Int32) = (0 : Int32))))) ?_
          show Ends p e below s _ _ _ T86 (mkF m 110 #[.val (.int i0), .val (.int i1), .val (.int i2), .val (.int (-1 : Int32)), .val (.int (1 : Int32)), .val (.int (5 : Int32)), .val (.int (1 : Int32)), .unset] [])
          refine go (fun _ => XS.iload X86.here hx rfl (hb hby at_110) rfl) ?_
          show Ends p e below s _ _ _ T86 (mkF m 112 #[.val (.int i0), .val (.int i1), .val (.int i2), .val (.int (-1 : Int32)), .val (.int (1 : Int32)), .val (.int (5 : Int32)), .val (.int (1 : Int32)), .unset] [(.int (1 : Int32))])
          refine go (fun _ => XS.ifNo X86.here hx rfl (hb hby at_112) rfl (XT.i0_eq_f ((by decide) : ¬ ((1 : Int32) = (0 : Int32))))) ?_
          show Ends p e below s _ _ _ T86 (mkF m 115 #[.val (.int i0), .val (.int i1), .val (.int i2), .val (.int (-1 : Int32)), .val (.int (1 : Int32)), .val (.int (5 : Int32)), .val (.int (1 : Int32)), .unset] [])
          refine go (fun _ => XT.iconstV X86.here hx rfl (1 : Int32) (hb hby at_115) (by decide)) ?_
          show Ends p e below s _ _ _ T86 (mkF m 116 #[.val (.int i0), .val (.int i1), .val (.int i2), .val (.int (-1 : Int32)), .val (.int (1 : Int32)), .val (.int (5 : Int32)), .val (.int (1 : Int32)), .unset] [(.int (1 : Int32))])
          refine go (fun _ => XS.goto X86.here hx rfl (pc0 := 116) (pc' := 120) rfl (hb hby at_116) (by decide) (by decide)) ?_
          show Ends p e below s _ _ _ T86 (mkF m 120 #[.val (.int i0), .val (.int i1), .val (.int i2), .val (.int (-1 : Int32)), .val (.int (1 : Int32)), .val (.int (5 : Int32)), .val (.int (1 : Int32)), .unset] [(.int (1 : Int32))])
          refine go (fun _ => XS.istore X86.here hx rfl (hb hby at_120) rfl (l' := #[.val (.int i0), .val (.int i1), .val (.int i2), .val (.int (-1 : Int32)), .val (.int (1 : Int32)), .val (.int (5 : Int32)), .val (.int (1 : Int32)), .val (.int (1 : Int32))]) rfl) ?_
          show Ends p e below s _ _ _ T86 (mkF m 122 #[.val (.int i0), .val (.int i1), .val (.int i2), .val (.int (-1 : Int32)), .val (.int (1 : Int32)), .val (.int (5 : Int32)), .val (.int (1 : Int32)), .val (.int (1 : Int32))] [])
          obtain ⟨T99, X99, e99, s99⟩ := getS2 X86 hx hZ hown (host := "") (Or.inl (hw _ (List.mem_of_getElem? (i := 8) rfl))) Via.refl e86 (Sta.ext O0 SC) (g := (mkF m 122 #[.val (.int i0), .val (.int i1), .val (.int i2), .val (.int (-1 : Int32)), .val (.int (1 : Int32)), .val (.int (5 : Int32)), .val (.int (1 : Int32)), .val (.int (1 : Int32))] [])) rfl (hb hby at_122)
          refine go s99 ?_
          show Ends p e below s _ _ _ T99 (mkF m 125 #[.val (.int i0), .val (.int i1), .val (.int i2), .val (.int (-1 : Int32)), .val (.int (1 : Int32)), .val (.int (5 : Int32)), .val (.int (1 : Int32)), .val (.int (1 : Int32))] [(.ref aC)])
          refine go (fun _ => XS.iload X99.here hx rfl (hb hby at_125) rfl) ?_
          show Ends p e below s _ _ _ T99 (mkF m 127 #[.val (.int i0), .val (.int i1), .val (.int i2), .val (.int (-1 : Int32)), .val (.int (1 : Int32)), .val (.int (5 : Int32)), .val (.int (1 : Int32)), .val (.int (1 : Int32))] [(.int (5 : Int32)), (.ref aC)])
          have F100 := (Arv.ext VC O0)
          obtain ⟨c101, A101, -, S101, M101, H101, -⟩ := id F100
          have B101 := inb_of S101 (j := (5 : Int32)) (by decide)
          refine go (fun _ => X99.iaload hx (j := (5 : Int32)) (v := (.int (-1 : Int32))) (by rw [e99]; exact A101.1) (State.isArrayOf_alike hZ.alike A101.2.1) A101.2.2 B101 (H101.at B101 rfl) (g := (mkF m 127 #[.val (.int i0), .val (.int i1), .val (.int i2), .val (.int (-1 : Int32)), .val (.int (1 : Int32)), .val (.int (5 : Int32)), .val (.int (1 : Int32)), .val (.int (1 : Int32))] [(.int (5 : Int32)), (.ref aC)])) rfl rfl (hb hby at_127) _) ?_
          show Ends p e below s _ _ _ T99 (mkF m 128 #[.val (.int i0), .val (.int i1), .val (.int i2), .val (.int (-1 : Int32)), .val (.int (1 : Int32)), .val (.int (5 : Int32)), .val (.int (1 : Int32)), .val (.int (1 : Int32))] [(.int (-1 : Int32))])
          refine go (fun _ => XS.iloadN X99.here hx rfl (hb hby at_128) rfl) ?_
          show Ends p e below s _ _ _ T99 (mkF m 129 #[.val (.int i0), .val (.int i1), .val (.int i2), .val (.int (-1 : Int32)), .val (.int (1 : Int32)), .val (.int (5 : Int32)), .val (.int (1 : Int32)), .val (.int (1 : Int32))] [(.int (-1 : Int32)), (.int (-1 : Int32))])
          refine go (fun _ => XS.icmpNo X99.here hx rfl (hb hby at_129) rfl (XT.ii_ne_f ((by decide) : (-1 : Int32) = (-1 : Int32)))) ?_
          show Ends p e below s _ _ _ T99 (mkF m 132 #[.val (.int i0), .val (.int i1), .val (.int i2), .val (.int (-1 : Int32)), .val (.int (1 : Int32)), .val (.int (5 : Int32)), .val (.int (1 : Int32)), .val (.int (1 : Int32))] [])
          obtain ⟨T102, X102, e102, s102⟩ := getS2 X99 hx hZ hown (host := "") (Or.inl (hw _ (List.mem_of_getElem? (i := 9) rfl))) Via.refl e99 (Sta.ext O0 SR) (g := (mkF m 132 #[.val (.int i0), .val (.int i1), .val (.int i2), .val (.int (-1 : Int32)), .val (.int (1 : Int32)), .val (.int (5 : Int32)), .val (.int (1 : Int32)), .val (.int (1 : Int32))] [])) rfl (hb hby at_132)
          refine go s102 ?_
          show Ends p e below s _ _ _ T102 (mkF m 135 #[.val (.int i0), .val (.int i1), .val (.int i2), .val (.int (-1 : Int32)), .val (.int (1 : Int32)), .val (.int (5 : Int32)), .val (.int (1 : Int32)), .val (.int (1 : Int32))] [(.ref aR)])
          refine go (fun _ => XS.iload X102.here hx rfl (hb hby at_135) rfl) ?_
          show Ends p e below s _ _ _ T102 (mkF m 137 #[.val (.int i0), .val (.int i1), .val (.int i2), .val (.int (-1 : Int32)), .val (.int (1 : Int32)), .val (.int (5 : Int32)), .val (.int (1 : Int32)), .val (.int (1 : Int32))] [(.int (5 : Int32)), (.ref aR)])
          have F103 := (Arv.ext VR O0)
          obtain ⟨c104, A104, -, S104, M104, H104, -⟩ := id F103
          have B104 := inb_of S104 (j := (5 : Int32)) (by decide)
          refine go (fun _ => X102.iaload hx (j := (5 : Int32)) (v := (.int (1 : Int32))) (by rw [e102]; exact A104.1) (State.isArrayOf_alike hZ.alike A104.2.1) A104.2.2 B104 (H104.at B104 rfl) (g := (mkF m 137 #[.val (.int i0), .val (.int i1), .val (.int i2), .val (.int (-1 : Int32)), .val (.int (1 : Int32)), .val (.int (5 : Int32)), .val (.int (1 : Int32)), .val (.int (1 : Int32))] [(.int (5 : Int32)), (.ref aR)])) rfl rfl (hb hby at_137) _) ?_
          show Ends p e below s _ _ _ T102 (mkF m 138 #[.val (.int i0), .val (.int i1), .val (.int i2), .val (.int (-1 : Int32)), .val (.int (1 : Int32)), .val (.int (5 : Int32)), .val (.int (1 : Int32)), .val (.int (1 : Int32))] [(.int (1 : Int32))])
          refine go (fun _ => XS.iload X102.here hx rfl (hb hby at_138) rfl) ?_
          show Ends p e below s _ _ _ T102 (mkF m 140 #[.val (.int i0), .val (.int i1), .val (.int i2), .val (.int (-1 : Int32)), .val (.int (1 : Int32)), .val (.int (5 : Int32)), .val (.int (1 : Int32)), .val (.int (1 : Int32))] [(.int (1 : Int32)), (.int (1 : Int32))])
          refine go (fun _ => XS.icmpNo X102.here hx rfl (hb hby at_140) rfl (XT.ii_ne_f ((by decide) : (1 : Int32) = (1 : Int32)))) ?_
          show Ends p e below s _ _ _ T102 (mkF m 143 #[.val (.int i0), .val (.int i1), .val (.int i2), .val (.int (-1 : Int32)), .val (.int (1 : Int32)), .val (.int (5 : Int32)), .val (.int (1 : Int32)), .val (.int (1 : Int32))] [])
          refine go (fun _ => XS.iload X102.here hx rfl (hb hby at_143) rfl) ?_
          show Ends p e below s _ _ _ T102 (mkF m 145 #[.val (.int i0), .val (.int i1), .val (.int i2), .val (.int (-1 : Int32)), .val (.int (1 : Int32)), .val (.int (5 : Int32)), .val (.int (1 : Int32)), .val (.int (1 : Int32))] [(.int (5 : Int32))])
          refine go (fun _ => XT.iconstV X102.here hx rfl (4 : Int32) (hb hby at_145) (by decide)) ?_
          show Ends p e below s _ _ _ T102 (mkF m 146 #[.val (.int i0), .val (.int i1), .val (.int i2), .val (.int (-1 : Int32)), .val (.int (1 : Int32)), .val (.int (5 : Int32)), .val (.int (1 : Int32)), .val (.int (1 : Int32))] [(.int (4 : Int32)), (.int (5 : Int32))])
          refine go (fun _ => XS.icmpNo X102.here hx rfl (hb hby at_146) rfl (XT.ii_lt_f ((by decide) : ¬ ((5 : Int32) < (4 : Int32))))) ?_
          show Ends p e below s _ _ _ T102 (mkF m 149 #[.val (.int i0), .val (.int i1), .val (.int i2), .val (.int (-1 : Int32)), .val (.int (1 : Int32)), .val (.int (5 : Int32)), .val (.int (1 : Int32)), .val (.int (1 : Int32))] [])
          refine go (fun _ => XT.iconstV X102.here hx rfl (1 : Int32) (hb hby at_149) (by decide)) ?_
          show Ends p e below s _ _ _ T102 (mkF m 150 #[.val (.int i0), .val (.int i1), .val (.int i2), .val (.int (-1 : Int32)), .val (.int (1 : Int32)), .val (.int (5 : Int32)), .val (.int (1 : Int32)), .val (.int (1 : Int32))] [(.int (1 : Int32))])
          refine go (fun _ => XS.goto X102.here hx rfl (pc0 := 150) (pc' := 154) rfl (hb hby at_150) (by decide) (by decide)) ?_
          show Ends p e below s _ _ _ T102 (mkF m 154 #[.val (.int i0), .val (.int i1), .val (.int i2), .val (.int (-1 : Int32)), .val (.int (1 : Int32)), .val (.int (5 : Int32)), .val (.int (1 : Int32)), .val (.int (1 : Int32))] [(.int (1 : Int32))])
          refine go (fun _ => XS.iload X102.here hx rfl (hb hby at_154) rfl) ?_
          show Ends p e below s _ _ _ T102 (mkF m 156 #[.val (.int i0), .val (.int i1), .val (.int i2), .val (.int (-1 : Int32)), .val (.int (1 : Int32)), .val (.int (5 : Int32)), .val (.int (1 : Int32)), .val (.int (1 : Int32))] [(.int (1 : Int32)), (.int (1 : Int32))])
          refine go (fun _ => XS.icmpNo X102.here hx rfl (hb hby at_156) rfl (XT.ii_ne_f ((by decide) : (1 : Int32) = (1 : Int32)))) ?_
          show Ends p e below s _ _ _ T102 (mkF m 159 #[.val (.int i0), .val (.int i1), .val (.int i2), .val (.int (-1 : Int32)), .val (.int (1 : Int32)), .val (.int (5 : Int32)), .val (.int (1 : Int32)), .val (.int (1 : Int32))] [])
          refine go (fun _ => XT.iconstV X102.here hx rfl (1 : Int32) (hb hby at_159) (by decide)) ?_
          show Ends p e below s _ _ _ T102 (mkF m 160 #[.val (.int i0), .val (.int i1), .val (.int i2), .val (.int (-1 : Int32)), .val (.int (1 : Int32)), .val (.int (5 : Int32)), .val (.int (1 : Int32)), .val (.int (1 : Int32))] [(.int (1 : Int32))])
          refine go (fun _ => XS.goto X102.here hx rfl (pc0 := 160) (pc' := 164) rfl (hb hby at_160) (by decide) (by decide)) ?_
          show Ends p e below s _ _ _ T102 (mkF m 164 #[.val (.int i0), .val (.int i1), .val (.int i2), .val (.int (-1 : Int32)), .val (.int (1 : Int32)), .val (.int (5 : Int32)), .val (.int (1 : Int32)), .val (.int (1 : Int32))] [(.int (1 : Int32))])
          exact endN X102 hx hlk hret (by simp) (hb hby at_164) e102 ⟨rfl, N86a⟩ (by decide) (by decide)
        · rw [own_mvr (Or.inr c.2)]
          show Ends p e below s _ _ _ T86 (mkF m 35 #[.val (.int i0), .val (.int i1), .val (.int i2), .val (.int (-1 : Int32)), .val (.int z85_0), .unset, .unset, .unset] [(.int (-1 : Int32))])
          refine go (fun _ => XS.istore X86.here hx rfl (hb hby at_35) rfl (l' := #[.val (.int i0), .val (.int i1), .val (.int i2), .val (.int (-1 : Int32)), .val (.int z85_0), .val (.int (-1 : Int32)), .unset, .unset]) rfl) ?_
          show Ends p e below s _ _ _ T86 (mkF m 37 #[.val (.int i0), .val (.int i1), .val (.int i2), .val (.int (-1 : Int32)), .val (.int z85_0), .val (.int (-1 : Int32)), .unset, .unset] [])
          refine go (fun _ => XS.iloadN X86.here hx rfl (hb hby at_37) rfl) ?_
          show Ends p e below s _ _ _ T86 (mkF m 38 #[.val (.int i0), .val (.int i1), .val (.int i2), .val (.int (-1 : Int32)), .val (.int z85_0), .val (.int (-1 : Int32)), .unset, .unset] [(.int (-1 : Int32))])
          refine go (fun _ => XT.iconstV X86.here hx rfl (-1 : Int32) (hb hby at_38) (by decide)) ?_
          show Ends p e below s _ _ _ T86 (mkF m 39 #[.val (.int i0), .val (.int i1), .val (.int i2), .val (.int (-1 : Int32)), .val (.int z85_0), .val (.int (-1 : Int32)), .unset, .unset] [(.int (-1 : Int32)), (.int (-1 : Int32))])
          refine go (fun _ => XS.icmpNo X86.here hx rfl (hb hby at_39) rfl (XT.ii_lt_f ((by decide) : ¬ ((-1 : Int32) < (-1 : Int32))))) ?_
          show Ends p e below s _ _ _ T86 (mkF m 42 #[.val (.int i0), .val (.int i1), .val (.int i2), .val (.int (-1 : Int32)), .val (.int z85_0), .val (.int (-1 : Int32)), .unset, .unset] [])
          refine go (fun _ => XS.iloadN X86.here hx rfl (hb hby at_42) rfl) ?_
          show Ends p e below s _ _ _ T86 (mkF m 43 #[.val (.int i0), .val (.int i1), .val (.int i2), .val (.int (-1 : Int32)), .val (.int z85_0), .val (.int (-1 : Int32)), .unset, .unset] [(.int (-1 : Int32))])
          refine go (fun _ => XT.iconstV X86.here hx rfl (1 : Int32) (hb hby at_43) (by decide)) ?_
          show Ends p e below s _ _ _ T86 (mkF m 44 #[.val (.int i0), .val (.int i1), .val (.int i2), .val (.int (-1 : Int32)), .val (.int z85_0), .val (.int (-1 : Int32)), .unset, .unset] [(.int (1 : Int32)), (.int (-1 : Int32))])
          refine go (fun _ => XS.icmpNo X86.here hx rfl (hb hby at_44) rfl (XT.ii_gt_f ((by decide) : ¬ ((1 : Int32) < (-1 : Int32))))) ?_
          show Ends p e below s _ _ _ T86 (mkF m 47 #[.val (.int i0), .val (.int i1), .val (.int i2), .val (.int (-1 : Int32)), .val (.int z85_0), .val (.int (-1 : Int32)), .unset, .unset] [])
          refine go (fun _ => XS.iload X86.here hx rfl (hb hby at_47) rfl) ?_
          show Ends p e below s _ _ _ T86 (mkF m 49 #[.val (.int i0), .val (.int i1), .val (.int i2), .val (.int (-1 : Int32)), .val (.int z85_0), .val (.int (-1 : Int32)), .unset, .unset] [(.int z85_0)])
          refine go (fun _ => XT.iconstV X86.here hx rfl (-1 : Int32) (hb hby at_49) (by decide)) ?_
          show Ends p e below s _ _ _ T86 (mkF m 50 #[.val (.int i0), .val (.int i1), .val (.int i2), .val (.int (-1 : Int32)), .val (.int z85_0), .val (.int (-1 : Int32)), .unset, .unset] [(.int (-1 : Int32)), (.int z85_0)])
          refine go (fun _ => XS.icmpNo X86.here hx rfl (hb hby at_50) rfl (XT.ii_lt_f c.1)) ?_
          show Ends p e below s _ _ _ T86 (mkF m 53 #[.val (.int i0), .val (.int i1), .val (.int i2), .val (.int (-1 : Int32)), .val (.int z85_0), .val (.int (-1 : Int32)), .unset, .unset] [])
          refine go (fun _ => XS.iload X86.here hx rfl (hb hby at_53) rfl) ?_
          show Ends p e below s _ _ _ T86 (mkF m 55 #[.val (.int i0), .val (.int i1), .val (.int i2), .val (.int (-1 : Int32)), .val (.int z85_0), .val (.int (-1 : Int32)), .unset, .unset] [(.int z85_0)])
          refine go (fun _ => XT.iconstV X86.here hx rfl (1 : Int32) (hb hby at_55) (by decide)) ?_
          show Ends p e below s _ _ _ T86 (mkF m 56 #[.val (.int i0), .val (.int i1), .val (.int i2), .val (.int (-1 : Int32)), .val (.int z85_0), .val (.int (-1 : Int32)), .unset, .unset] [(.int (1 : Int32)), (.int z85_0)])
          refine go (fun _ => XS.icmpYes X86.here hx rfl (pc0 := 56) (pc' := 72) rfl (hb hby at_56) rfl (XT.ii_gt_t c.2) (by decide) (by decide)) ?_
          show Ends p e below s _ _ _ T86 (mkF m 72 #[.val (.int i0), .val (.int i1), .val (.int i2), .val (.int (-1 : Int32)), .val (.int z85_0), .val (.int (-1 : Int32)), .unset, .unset] [])
          refine go (fun _ => XT.iconstV X86.here hx rfl (0 : Int32) (hb hby at_72) (by decide)) ?_
          show Ends p e below s _ _ _ T86 (mkF m 73 #[.val (.int i0), .val (.int i1), .val (.int i2), .val (.int (-1 : Int32)), .val (.int z85_0), .val (.int (-1 : Int32)), .unset, .unset] [(.int (0 : Int32))])
          refine go (fun _ => XS.istore X86.here hx rfl (hb hby at_73) rfl (l' := #[.val (.int i0), .val (.int i1), .val (.int i2), .val (.int (-1 : Int32)), .val (.int z85_0), .val (.int (-1 : Int32)), .val (.int (0 : Int32)), .unset]) rfl) ?_
          show Ends p e below s _ _ _ T86 (mkF m 75 #[.val (.int i0), .val (.int i1), .val (.int i2), .val (.int (-1 : Int32)), .val (.int z85_0), .val (.int (-1 : Int32)), .val (.int (0 : Int32)), .unset] [])
          refine go (fun _ => XS.iload X86.here hx rfl (hb hby at_75) rfl) ?_
          show Ends p e below s _ _ _ T86 (mkF m 77 #[.val (.int i0), .val (.int i1), .val (.int i2), .val (.int (-1 : Int32)), .val (.int z85_0), .val (.int (-1 : Int32)), .val (.int (0 : Int32)), .unset] [(.int (0 : Int32))])
          refine go (fun _ => XS.ifNo X86.here hx rfl (hb hby at_77) rfl (XT.i0_ne_f ((by decide) : (0 : Int32) = (0 : Int32)))) ?_
          show Ends p e below s _ _ _ T86 (mkF m 80 #[.val (.int i0), .val (.int i1), .val (.int i2), .val (.int (-1 : Int32)), .val (.int z85_0), .val (.int (-1 : Int32)), .val (.int (0 : Int32)), .unset] [])
          refine go (fun _ => XS.iload X86.here hx rfl (hb hby at_80) rfl) ?_
          show Ends p e below s _ _ _ T86 (mkF m 82 #[.val (.int i0), .val (.int i1), .val (.int i2), .val (.int (-1 : Int32)), .val (.int z85_0), .val (.int (-1 : Int32)), .val (.int (0 : Int32)), .unset] [(.int (-1 : Int32))])
          refine go (fun _ => XT.iconstV X86.here hx rfl (-1 : Int32) (hb hby at_82) (by decide)) ?_
          show Ends p e below s _ _ _ T86 (mkF m 83 #[.val (.int i0), .val (.int i1), .val (.int i2), .val (.int (-1 : Int32)), .val (.int z85_0), .val (.int (-1 : Int32)), .val (.int (0 : Int32)), .unset] [(.int (-1 : Int32)), (.int (-1 : Int32))])
          refine go (fun _ => XS.icmpNo X86.here hx rfl (hb hby at_83) rfl (XT.ii_ne_f ((by decide) : (-1 : Int32) = (-1 : Int32)))) ?_
          show Ends p e below s _ _ _ T86 (mkF m 86 #[.val (.int i0), .val (.int i1), .val (.int i2), .val (.int (-1 : Int32)), .val (.int z85_0), .val (.int (-1 : Int32)), .val (.int (0 : Int32)), .unset] [])
          refine go (fun _ => XT.iconstV X86.here hx rfl (1 : Int32) (hb hby at_86) (by decide)) ?_
          show Ends p e below s _ _ _ T86 (mkF m 87 #[.val (.int i0), .val (.int i1), .val (.int i2), .val (.int (-1 : Int32)), .val (.int z85_0), .val (.int (-1 : Int32)), .val (.int (0 : Int32)), .unset] [(.int (1 : Int32))])
          refine go (fun _ => XS.goto X86.here hx rfl (pc0 := 87) (pc' := 91) rfl (hb hby at_87) (by decide) (by decide)) ?_
          show Ends p e below s _ _ _ T86 (mkF m 91 #[.val (.int i0), .val (.int i1), .val (.int i2), .val (.int (-1 : Int32)), .val (.int z85_0), .val (.int (-1 : Int32)), .val (.int (0 : Int32)), .unset] [(.int (1 : Int32))])
          exact endN X86 hx hlk hret (by simp) (hb hby at_91) e86 ⟨rfl, N86a⟩ (by decide) (by decide)
      · rcases own_five z85_0 with c | rfl | rfl | rfl | c
        · rw [own_mvr (Or.inl c)]
          show Ends p e below s _ _ _ T86 (mkF m 35 #[.val (.int i0), .val (.int i1), .val (.int i2), .val (.int (0 : Int32)), .val (.int z85_0), .unset, .unset, .unset] [(.int (-1 : Int32))])
          refine go (fun _ => XS.istore X86.here hx rfl (hb hby at_35) rfl (l' := #[.val (.int i0), .val (.int i1), .val (.int i2), .val (.int (0 : Int32)), .val (.int z85_0), .val (.int (-1 : Int32)), .unset, .unset]) rfl) ?_
          show Ends p e below s _ _ _ T86 (mkF m 37 #[.val (.int i0), .val (.int i1), .val (.int i2), .val (.int (0 : Int32)), .val (.int z85_0), .val (.int (-1 : Int32)), .unset, .unset] [])
          refine go (fun _ => XS.iloadN X86.here hx rfl (hb hby at_37) rfl) ?_
          show Ends p e below s _ _ _ T86 (mkF m 38 #[.val (.int i0), .val (.int i1), .val (.int i2), .val (.int (0 : Int32)), .val (.int z85_0), .val (.int (-1 : Int32)), .unset, .unset] [(.int (0 : Int32))])
          refine go (fun _ => XT.iconstV X86.here hx rfl (-1 : Int32) (hb hby at_38) (by decide)) ?_
          show Ends p e below s _ _ _ T86 (mkF m 39 #[.val (.int i0), .val (.int i1), .val (.int i2), .val (.int (0 : Int32)), .val (.int z85_0), .val (.int (-1 : Int32)), .unset, .unset] [(.int (-1 : Int32)), (.int (0 : Int32))])
          refine go (fun _ => XS.icmpNo X86.here hx rfl (hb hby at_39) rfl (XT.ii_lt_f ((by decide) : ¬ ((0 : Int32) < (-1 : Int32))))) ?_
          show Ends p e below s _ _ _ T86 (mkF m 42 #[.val (.int i0), .val (.int i1), .val (.int i2), .val (.int (0 : Int32)), .val (.int z85_0), .val (.int (-1 : Int32)), .unset, .unset] [])
          refine go (fun _ => XS.iloadN X86.here hx rfl (hb hby at_42) rfl) ?_
          show Ends p e below s _ _ _ T86 (mkF m 43 #[.val (.int i0), .val (.int i1), .val (.int i2), .val (.int (0 : Int32)), .val (.int z85_0), .val (.int (-1 : Int32)), .unset, .unset] [(.int (0 : Int32))])
          refine go (fun _ => XT.iconstV X86.here hx rfl (1 : Int32) (hb hby at_43) (by decide)) ?_
          show Ends p e below s _ _ _ T86 (mkF m 44 #[.val (.int i0), .val (.int i1), .val (.int i2), .val (.int (0 : Int32)), .val (.int z85_0), .val (.int (-1 : Int32)), .unset, .unset] [(.int (1 : Int32)), (.int (0 : Int32))])
          refine go (fun _ => XS.icmpNo X86.here hx rfl (hb hby at_44) rfl (XT.ii_gt_f ((by decide) : ¬ ((1 : Int32) < (0 : Int32))))) ?_
          show Ends p e below s _ _ _ T86 (mkF m 47 #[.val (.int i0), .val (.int i1), .val (.int i2), .val (.int (0 : Int32)), .val (.int z85_0), .val (.int (-1 : Int32)), .unset, .unset] [])
          refine go (fun _ => XS.iload X86.here hx rfl (hb hby at_47) rfl) ?_
          show Ends p e below s _ _ _ T86 (mkF m 49 #[.val (.int i0), .val (.int i1), .val (.int i2), .val (.int (0 : Int32)), .val (.int z85_0), .val (.int (-1 : Int32)), .unset, .unset] [(.int z85_0)])
          refine go (fun _ => XT.iconstV X86.here hx rfl (-1 : Int32) (hb hby at_49) (by decide)) ?_
          show Ends p e below s _ _ _ T86 (mkF m 50 #[.val (.int i0), .val (.int i1), .val (.int i2), .val (.int (0 : Int32)), .val (.int z85_0), .val (.int (-1 : Int32)), .unset, .unset] [(.int (-1 : Int32)), (.int z85_0)])
          refine go (fun _ => XS.icmpYes X86.here hx rfl (pc0 := 50) (pc' := 72) rfl (hb hby at_50) rfl (XT.ii_lt_t c) (by decide) (by decide)) ?_
          show Ends p e below s _ _ _ T86 (mkF m 72 #[.val (.int i0), .val (.int i1), .val (.int i2), .val (.int (0 : Int32)), .val (.int z85_0), .val (.int (-1 : Int32)), .unset, .unset] [])
          refine go (fun _ => XT.iconstV X86.here hx rfl (0 : Int32) (hb hby at_72) (by decide)) ?_
          show Ends p e below s _ _ _ T86 (mkF m 73 #[.val (.int i0), .val (.int i1), .val (.int i2), .val (.int (0 : Int32)), .val (.int z85_0), .val (.int (-1 : Int32)), .unset, .unset] [(.int (0 : Int32))])
          refine go (fun _ => XS.istore X86.here hx rfl (hb hby at_73) rfl (l' := #[.val (.int i0), .val (.int i1), .val (.int i2), .val (.int (0 : Int32)), .val (.int z85_0), .val (.int (-1 : Int32)), .val (.int (0 : Int32)), .unset]) rfl) ?_
          show Ends p e below s _ _ _ T86 (mkF m 75 #[.val (.int i0), .val (.int i1), .val (.int i2), .val (.int (0 : Int32)), .val (.int z85_0), .val (.int (-1 : Int32)), .val (.int (0 : Int32)), .unset] [])
          refine go (fun _ => XS.iload X86.here hx rfl (hb hby at_75) rfl) ?_
          show Ends p e below s _ _ _ T86 (mkF m 77 #[.val (.int i0), .val (.int i1), .val (.int i2), .val (.int (0 : Int32)), .val (.int z85_0), .val (.int (-1 : Int32)), .val (.int (0 : Int32)), .unset] [(.int (0 : Int32))])
          refine go (fun _ => XS.ifNo X86.here hx rfl (hb hby at_77) rfl (XT.i0_ne_f ((by decide) : (0 : Int32) = (0 : Int32)))) ?_
          show Ends p e below s _ _ _ T86 (mkF m 80 #[.val (.int i0), .val (.int i1), .val (.int i2), .val (.int (0 : Int32)), .val (.int z85_0), .val (.int (-1 : Int32)), .val (.int (0 : Int32)), .unset] [])
          refine go (fun _ => XS.iload X86.here hx rfl (hb hby at_80) rfl) ?_
          show Ends p e below s _ _ _ T86 (mkF m 82 #[.val (.int i0), .val (.int i1), .val (.int i2), .val (.int (0 : Int32)), .val (.int z85_0), .val (.int (-1 : Int32)), .val (.int (0 : Int32)), .unset] [(.int (-1 : Int32))])
          refine go (fun _ => XT.iconstV X86.here hx rfl (-1 : Int32) (hb hby at_82) (by decide)) ?_
          show Ends p e below s _ _ _ T86 (mkF m 83 #[.val (.int i0), .val (.int i1), .val (.int i2), .val (.int (0 : Int32)), .val (.int z85_0), .val (.int (-1 : Int32)), .val (.int (0 : Int32)), .unset] [(.int (-1 : Int32)), (.int (-1 : Int32))])
          refine go (fun _ => XS.icmpNo X86.here hx rfl (hb hby at_83) rfl (XT.ii_ne_f ((by decide) : (-1 : Int32) = (-1 : Int32)))) ?_
          show Ends p e below s _ _ _ T86 (mkF m 86 #[.val (.int i0), .val (.int i1), .val (.int i2), .val (.int (0 : Int32)), .val (.int z85_0), .val (.int (-1 : Int32)), .val (.int (0 : Int32)), .unset] [])
          refine go (fun _ => XT.iconstV X86.here hx rfl (1 : Int32) (hb hby at_86) (by decide)) ?_
          show Ends p e below s _ _ _ T86 (mkF m 87 #[.val (.int i0), .val (.int i1), .val (.int i2), .val (.int (0 : Int32)), .val (.int z85_0), .val (.int (-1 : Int32)), .val (.int (0 : Int32)), .unset] [(.int (1 : Int32))])
          refine go (fun _ => XS.goto X86.here hx rfl (pc0 := 87) (pc' := 91) rfl (hb hby at_87) (by decide) (by decide)) ?_
          show Ends p e below s _ _ _ T86 (mkF m 91 #[.val (.int i0), .val (.int i1), .val (.int i2), .val (.int (0 : Int32)), .val (.int z85_0), .val (.int (-1 : Int32)), .val (.int (0 : Int32)), .unset] [(.int (1 : Int32))])
          exact endN X86 hx hlk hret (by simp) (hb hby at_91) e86 ⟨rfl, N86a⟩ (by decide) (by decide)
        · show Ends p e below s _ _ _ T86 (mkF m 35 #[.val (.int i0), .val (.int i1), .val (.int i2), .val (.int (0 : Int32)), .val (.int (-1 : Int32)), .unset, .unset, .unset] [(.int (3 : Int32))])
          refine go (fun _ => XS.istore X86.here hx rfl (hb hby at_35) rfl (l' := #[.val (.int i0), .val (.int i1), .val (.int i2), .val (.int (0 : Int32)), .val (.int (-1 : Int32)), .val (.int (3 : Int32)), .unset, .unset]) rfl) ?_
          show Ends p e below s _ _ _ T86 (mkF m 37 #[.val (.int i0), .val (.int i1), .val (.int i2), .val (.int (0 : Int32)), .val (.int (-1 : Int32)), .val (.int (3 : Int32)), .unset, .unset] [])
          refine go (fun _ => XS.iloadN X86.here hx rfl (hb hby at_37) rfl) ?_
          show Ends p e below s _ _ _ T86 (mkF m 38 #[.val (.int i0), .val (.int i1), .val (.int i2), .val (.int (0 : Int32)), .val (.int (-1 : Int32)), .val (.int (3 : Int32)), .unset, .unset] [(.int (0 : Int32))])
          refine go (fun _ => XT.iconstV X86.here hx rfl (-1 : Int32) (hb hby at_38) (by decide)) ?_
          show Ends p e below s _ _ _ T86 (mkF m 39 #[.val (.int i0), .val (.int i1), .val (.int i2), .val (.int (0 : Int32)), .val (.int (-1 : Int32)), .val (.int (3 : Int32)), .unset, .unset] [(.int (-1 : Int32)), (.int (0 : Int32))])
          refine go (fun _ => XS.icmpNo X86.here hx rfl (hb hby at_39) rfl (XT.ii_lt_f ((by decide) : ¬ ((0 : Int32) < (-1 : Int32))))) ?_
          show Ends p e below s _ _ _ T86 (mkF m 42 #[.val (.int i0), .val (.int i1), .val (.int i2), .val (.int (0 : Int32)), .val (.int (-1 : Int32)), .val (.int (3 : Int32)), .unset, .unset] [])
          refine go (fun _ => XS.iloadN X86.here hx rfl (hb hby at_42) rfl) ?_
          show Ends p e below s _ _ _ T86 (mkF m 43 #[.val (.int i0), .val (.int i1), .val (.int i2), .val (.int (0 : Int32)), .val (.int (-1 : Int32)), .val (.int (3 : Int32)), .unset, .unset] [(.int (0 : Int32))])
          refine go (fun _ => XT.iconstV X86.here hx rfl (1 : Int32) (hb hby at_43) (by decide)) ?_
          show Ends p e below s _ _ _ T86 (mkF m 44 #[.val (.int i0), .val (.int i1), .val (.int i2), .val (.int (0 : Int32)), .val (.int (-1 : Int32)), .val (.int (3 : Int32)), .unset, .unset] [(.int (1 : Int32)), (.int (0 : Int32))])
          refine go (fun _ => XS.icmpNo X86.here hx rfl (hb hby at_44) rfl (XT.ii_gt_f ((by decide) : ¬ ((1 : Int32) < (0 : Int32))))) ?_
          show Ends p e below s _ _ _ T86 (mkF m 47 #[.val (.int i0), .val (.int i1), .val (.int i2), .val (.int (0 : Int32)), .val (.int (-1 : Int32)), .val (.int (3 : Int32)), .unset, .unset] [])
          refine go (fun _ => XS.iload X86.here hx rfl (hb hby at_47) rfl) ?_
          show Ends p e below s _ _ _ T86 (mkF m 49 #[.val (.int i0), .val (.int i1), .val (.int i2), .val (.int (0 : Int32)), .val (.int (-1 : Int32)), .val (.int (3 : Int32)), .unset, .unset] [(.int (-1 : Int32))])
          refine go (fun _ => XT.iconstV X86.here hx rfl (-1 : Int32) (hb hby at_49) (by decide)) ?_
          show Ends p e below s _ _ _ T86 (mkF m 50 #[.val (.int i0), .val (.int i1), .val (.int i2), .val (.int (0 : Int32)), .val (.int (-1 : Int32)), .val (.int (3 : Int32)), .unset, .unset] [(.int (-1 : Int32)), (.int (-1 : Int32))])
          refine go (fun _ => XS.icmpNo X86.here hx rfl (hb hby at_50) rfl (XT.ii_lt_f ((by decide) : ¬ ((-1 : Int32) < (-1 : Int32))))) ?_
          show Ends p e below s _ _ _ T86 (mkF m 53 #[.val (.int i0), .val (.int i1), .val (.int i2), .val (.int (0 : Int32)), .val (.int (-1 : Int32)), .val (.int (3 : Int32)), .unset, .unset] [])
          refine go (fun _ => XS.iload X86.here hx rfl (hb hby at_53) rfl) ?_
          show Ends p e below s _ _ _ T86 (mkF m 55 #[.val (.int i0), .val (.int i1), .val (.int i2), .val (.int (0 : Int32)), .val (.int (-1 : Int32)), .val (.int (3 : Int32)), .unset, .unset] [(.int (-1 : Int32))])
          refine go (fun _ => XT.iconstV X86.here hx rfl (1 : Int32) (hb hby at_55) (by decide)) ?_
          show Ends p e below s _ _ _ T86 (mkF m 56 #[.val (.int i0), .val (.int i1), .val (.int i2), .val (.int (0 : Int32)), .val (.int (-1 : Int32)), .val (.int (3 : Int32)), .unset, .unset] [(.int (1 : Int32)), (.int (-1 : Int32))])
          refine go (fun _ => XS.icmpNo X86.here hx rfl (hb hby at_56) rfl (XT.ii_gt_f ((by decide) : ¬ ((1 : Int32) < (-1 : Int32))))) ?_
          show Ends p e below s _ _ _ T86 (mkF m 59 #[.val (.int i0), .val (.int i1), .val (.int i2), .val (.int (0 : Int32)), .val (.int (-1 : Int32)), .val (.int (3 : Int32)), .unset, .unset] [])
          refine go (fun _ => XS.iloadN X86.here hx rfl (hb hby at_59) rfl) ?_
          show Ends p e below s _ _ _ T86 (mkF m 60 #[.val (.int i0), .val (.int i1), .val (.int i2), .val (.int (0 : Int32)), .val (.int (-1 : Int32)), .val (.int (3 : Int32)), .unset, .unset] [(.int (0 : Int32))])
          refine go (fun _ => XS.ifNo X86.here hx rfl (hb hby at_60) rfl (XT.i0_ne_f ((by decide) : (0 : Int32) = (0 : Int32)))) ?_
          show Ends p e below s _ _ _ T86 (mkF m 63 #[.val (.int i0), .val (.int i1), .val (.int i2), .val (.int (0 : Int32)), .val (.int (-1 : Int32)), .val (.int (3 : Int32)), .unset, .unset] [])
          refine go (fun _ => XS.iload X86.here hx rfl (hb hby at_63) rfl) ?_
          show Ends p e below s _ _ _ T86 (mkF m 65 #[.val (.int i0), .val (.int i1), .val (.int i2), .val (.int (0 : Int32)), .val (.int (-1 : Int32)), .val (.int (3 : Int32)), .unset, .unset] [(.int (-1 : Int32))])
          refine go (fun _ => XS.ifNo X86.here hx rfl (hb hby at_65) rfl (XT.i0_eq_f ((by decide) : ¬ ((-1 : Int32) = (0 : Int32))))) ?_
          show Ends p e below s _ _ _ T86 (mkF m 68 #[.val (.int i0), .val (.int i1), .val (.int i2), .val (.int (0 : Int32)), .val (.int (-1 : Int32)), .val (.int (3 : Int32)), .unset, .unset] [])
          refine go (fun _ => XT.iconstV X86.here hx rfl (1 : Int32) (hb hby at_68) (by decide)) ?_
          show Ends p e below s _ _ _ T86 (mkF m 69 #[.val (.int i0), .val (.int i1), .val (.int i2), .val (.int (0 : Int32)), .val (.int (-1 : Int32)), .val (.int (3 : Int32)), .unset, .unset] [(.int (1 : Int32))])
          refine go (fun _ => XS.goto X86.here hx rfl (pc0 := 69) (pc' := 73) rfl (hb hby at_69) (by decide) (by decide)) ?_
          show Ends p e below s _ _ _ T86 (mkF m 73 #[.val (.int i0), .val (.int i1), .val (.int i2), .val (.int (0 : Int32)), .val (.int (-1 : Int32)), .val (.int (3 : Int32)), .unset, .unset] [(.int (1 : Int32))])
          refine go (fun _ => XS.istore X86.here hx rfl (hb hby at_73) rfl (l' := #[.val (.int i0), .val (.int i1), .val (.int i2), .val (.int (0 : Int32)), .val (.int (-1 : Int32)), .val (.int (3 : Int32)), .val (.int (1 : Int32)), .unset]) rfl) ?_
          show Ends p e below s _ _ _ T86 (mkF m 75 #[.val (.int i0), .val (.int i1), .val (.int i2), .val (.int (0 : Int32)), .val (.int (-1 : Int32)), .val (.int (3 : Int32)), .val (.int (1 : Int32)), .unset] [])
          refine go (fun _ => XS.iload X86.here hx rfl (hb hby at_75) rfl) ?_
          show Ends p e below s _ _ _ T86 (mkF m 77 #[.val (.int i0), .val (.int i1), .val (.int i2), .val (.int (0 : Int32)), .val (.int (-1 : Int32)), .val (.int (3 : Int32)), .val (.int (1 : Int32)), .unset] [(.int (1 : Int32))])
          refine go (fun _ => XS.ifYes X86.here hx rfl (pc0 := 77) (pc' := 92) rfl (hb hby at_77) rfl (XT.i0_ne_t ((by decide) : ¬ ((1 : Int32) = (0 : Int32)))) (by decide) (by decide)) ?_
          show Ends p e below s _ _ _ T86 (mkF m 92 #[.val (.int i0), .val (.int i1), .val (.int i2), .val (.int (0 : Int32)), .val (.int (-1 : Int32)), .val (.int (3 : Int32)), .val (.int (1 : Int32)), .unset] [])
          refine go (fun _ => XS.iload X86.here hx rfl (hb hby at_92) rfl) ?_
          show Ends p e below s _ _ _ T86 (mkF m 94 #[.val (.int i0), .val (.int i1), .val (.int i2), .val (.int (0 : Int32)), .val (.int (-1 : Int32)), .val (.int (3 : Int32)), .val (.int (1 : Int32)), .unset] [(.int (3 : Int32))])
          refine go (fun _ => XS.ifNo X86.here hx rfl (hb hby at_94) rfl (XT.i0_lt_f ((by decide) : ¬ ((3 : Int32) < (0 : Int32))))) ?_
          show Ends p e below s _ _ _ T86 (mkF m 97 #[.val (.int i0), .val (.int i1), .val (.int i2), .val (.int (0 : Int32)), .val (.int (-1 : Int32)), .val (.int (3 : Int32)), .val (.int (1 : Int32)), .unset] [])
          refine go (fun _ => XS.iload X86.here hx rfl (hb hby at_97) rfl) ?_
          show Ends p e below s _ _ _ T86 (mkF m 99 #[.val (.int i0), .val (.int i1), .val (.int i2), .val (.int (0 : Int32)), .val (.int (-1 : Int32)), .val (.int (3 : Int32)), .val (.int (1 : Int32)), .unset] [(.int (3 : Int32))])
          refine go (fun _ => XT.bipushV X86.here hx rfl (8 : Int32) (hb hby at_99) (by decide)) ?_
          show Ends p e below s _ _ _ T86 (mkF m 101 #[.val (.int i0), .val (.int i1), .val (.int i2), .val (.int (0 : Int32)), .val (.int (-1 : Int32)), .val (.int (3 : Int32)), .val (.int (1 : Int32)), .unset] [(.int (8 : Int32)), (.int (3 : Int32))])
          refine go (fun _ => XS.icmpYes X86.here hx rfl (pc0 := 101) (pc' := 106) rfl (hb hby at_101) rfl (XT.ii_lt_t ((by decide) : (3 : Int32) < (8 : Int32))) (by decide) (by decide)) ?_
          show Ends p e below s _ _ _ T86 (mkF m 106 #[.val (.int i0), .val (.int i1), .val (.int i2), .val (.int (0 : Int32)), .val (.int (-1 : Int32)), .val (.int (3 : Int32)), .val (.int (1 : Int32)), .unset] [])
          refine go (fun _ => XS.iloadN X86.here hx rfl (hb hby at_106) rfl) ?_
          show Ends p e below s _ _ _ T86 (mkF m 107 #[.val (.int i0), .val (.int i1), .val (.int i2), .val (.int (0 : Int32)), .val (.int (-1 : Int32)), .val (.int (3 : Int32)), .val (.int (1 : Int32)), .unset] [(.int (0 : Int32))])
          refine go (fun _ => XS.ifYes X86.here hx rfl (pc0 := 107) (pc' := 119) rfl (hb hby at_107) rfl (XT.i0_eq_t ((by decide) : (0 : Int32) = (0 : Int32))) (by decide) (by decide)) ?_
          show Ends p e below s _ _ _ T86 (mkF m 119 #[.val (.int i0), .val (.int i1), .val (.int i2), .val (.int (0 : Int32)), .val (.int (-1 : Int32)), .val (.int (3 : Int32)), .val (.int (1 : Int32)), .unset] [])
          refine go (fun _ => XT.iconstV X86.here hx rfl (0 : Int32) (hb hby at_119) (by decide)) ?_
          show Ends p e below s _ _ _ T86 (mkF m 120 #[.val (.int i0), .val (.int i1), .val (.int i2), .val (.int (0 : Int32)), .val (.int (-1 : Int32)), .val (.int (3 : Int32)), .val (.int (1 : Int32)), .unset] [(.int (0 : Int32))])
          refine go (fun _ => XS.istore X86.here hx rfl (hb hby at_120) rfl (l' := #[.val (.int i0), .val (.int i1), .val (.int i2), .val (.int (0 : Int32)), .val (.int (-1 : Int32)), .val (.int (3 : Int32)), .val (.int (1 : Int32)), .val (.int (0 : Int32))]) rfl) ?_
          show Ends p e below s _ _ _ T86 (mkF m 122 #[.val (.int i0), .val (.int i1), .val (.int i2), .val (.int (0 : Int32)), .val (.int (-1 : Int32)), .val (.int (3 : Int32)), .val (.int (1 : Int32)), .val (.int (0 : Int32))] [])
          obtain ⟨T105, X105, e105, s105⟩ := getS2 X86 hx hZ hown (host := "") (Or.inl (hw _ (List.mem_of_getElem? (i := 8) rfl))) Via.refl e86 (Sta.ext O0 SC) (g := (mkF m 122 #[.val (.int i0), .val (.int i1), .val (.int i2), .val (.int (0 : Int32)), .val (.int (-1 : Int32)), .val (.int (3 : Int32)), .val (.int (1 : Int32)), .val (.int (0 : Int32))] [])) rfl (hb hby at_122)
          refine go s105 ?_
          show Ends p e below s _ _ _ T105 (mkF m 125 #[.val (.int i0), .val (.int i1), .val (.int i2), .val (.int (0 : Int32)), .val (.int (-1 : Int32)), .val (.int (3 : Int32)), .val (.int (1 : Int32)), .val (.int (0 : Int32))] [(.ref aC)])
          refine go (fun _ => XS.iload X105.here hx rfl (hb hby at_125) rfl) ?_
          show Ends p e below s _ _ _ T105 (mkF m 127 #[.val (.int i0), .val (.int i1), .val (.int i2), .val (.int (0 : Int32)), .val (.int (-1 : Int32)), .val (.int (3 : Int32)), .val (.int (1 : Int32)), .val (.int (0 : Int32))] [(.int (3 : Int32)), (.ref aC)])
          have F106 := (Arv.ext VC O0)
          obtain ⟨c107, A107, -, S107, M107, H107, -⟩ := id F106
          have B107 := inb_of S107 (j := (3 : Int32)) (by decide)
          refine go (fun _ => X105.iaload hx (j := (3 : Int32)) (v := (.int (0 : Int32))) (by rw [e105]; exact A107.1) (State.isArrayOf_alike hZ.alike A107.2.1) A107.2.2 B107 (H107.at B107 rfl) (g := (mkF m 127 #[.val (.int i0), .val (.int i1), .val (.int i2), .val (.int (0 : Int32)), .val (.int (-1 : Int32)), .val (.int (3 : Int32)), .val (.int (1 : Int32)), .val (.int (0 : Int32))] [(.int (3 : Int32)), (.ref aC)])) rfl rfl (hb hby at_127) _) ?_
          show Ends p e below s _ _ _ T105 (mkF m 128 #[.val (.int i0), .val (.int i1), .val (.int i2), .val (.int (0 : Int32)), .val (.int (-1 : Int32)), .val (.int (3 : Int32)), .val (.int (1 : Int32)), .val (.int (0 : Int32))] [(.int (0 : Int32))])
          refine go (fun _ => XS.iloadN X105.here hx rfl (hb hby at_128) rfl) ?_
          show Ends p e below s _ _ _ T105 (mkF m 129 #[.val (.int i0), .val (.int i1), .val (.int i2), .val (.int (0 : Int32)), .val (.int (-1 : Int32)), .val (.int (3 : Int32)), .val (.int (1 : Int32)), .val (.int (0 : Int32))] [(.int (0 : Int32)), (.int (0 : Int32))])
          refine go (fun _ => XS.icmpNo X105.here hx rfl (hb hby at_129) rfl (XT.ii_ne_f ((by decide) : (0 : Int32) = (0 : Int32)))) ?_
          show Ends p e below s _ _ _ T105 (mkF m 132 #[.val (.int i0), .val (.int i1), .val (.int i2), .val (.int (0 : Int32)), .val (.int (-1 : Int32)), .val (.int (3 : Int32)), .val (.int (1 : Int32)), .val (.int (0 : Int32))] [])
          obtain ⟨T108, X108, e108, s108⟩ := getS2 X105 hx hZ hown (host := "") (Or.inl (hw _ (List.mem_of_getElem? (i := 9) rfl))) Via.refl e105 (Sta.ext O0 SR) (g := (mkF m 132 #[.val (.int i0), .val (.int i1), .val (.int i2), .val (.int (0 : Int32)), .val (.int (-1 : Int32)), .val (.int (3 : Int32)), .val (.int (1 : Int32)), .val (.int (0 : Int32))] [])) rfl (hb hby at_132)
          refine go s108 ?_
          show Ends p e below s _ _ _ T108 (mkF m 135 #[.val (.int i0), .val (.int i1), .val (.int i2), .val (.int (0 : Int32)), .val (.int (-1 : Int32)), .val (.int (3 : Int32)), .val (.int (1 : Int32)), .val (.int (0 : Int32))] [(.ref aR)])
          refine go (fun _ => XS.iload X108.here hx rfl (hb hby at_135) rfl) ?_
          show Ends p e below s _ _ _ T108 (mkF m 137 #[.val (.int i0), .val (.int i1), .val (.int i2), .val (.int (0 : Int32)), .val (.int (-1 : Int32)), .val (.int (3 : Int32)), .val (.int (1 : Int32)), .val (.int (0 : Int32))] [(.int (3 : Int32)), (.ref aR)])
          have F109 := (Arv.ext VR O0)
          obtain ⟨c110, A110, -, S110, M110, H110, -⟩ := id F109
          have B110 := inb_of S110 (j := (3 : Int32)) (by decide)
          refine go (fun _ => X108.iaload hx (j := (3 : Int32)) (v := (.int (-1 : Int32))) (by rw [e108]; exact A110.1) (State.isArrayOf_alike hZ.alike A110.2.1) A110.2.2 B110 (H110.at B110 rfl) (g := (mkF m 137 #[.val (.int i0), .val (.int i1), .val (.int i2), .val (.int (0 : Int32)), .val (.int (-1 : Int32)), .val (.int (3 : Int32)), .val (.int (1 : Int32)), .val (.int (0 : Int32))] [(.int (3 : Int32)), (.ref aR)])) rfl rfl (hb hby at_137) _) ?_
          show Ends p e below s _ _ _ T108 (mkF m 138 #[.val (.int i0), .val (.int i1), .val (.int i2), .val (.int (0 : Int32)), .val (.int (-1 : Int32)), .val (.int (3 : Int32)), .val (.int (1 : Int32)), .val (.int (0 : Int32))] [(.int (-1 : Int32))])
          refine go (fun _ => XS.iload X108.here hx rfl (hb hby at_138) rfl) ?_
          show Ends p e below s _ _ _ T108 (mkF m 140 #[.val (.int i0), .val (.int i1), .val (.int i2), .val (.int (0 : Int32)), .val (.int (-1 : Int32)), .val (.int (3 : Int32)), .val (.int (1 : Int32)), .val (.int (0 : Int32))] [(.int (-1 : Int32)), (.int (-1 : Int32))])
          refine go (fun _ => XS.icmpNo X108.here hx rfl (hb hby at_140) rfl (XT.ii_ne_f ((by decide) : (-1 : Int32) = (-1 : Int32)))) ?_
          show Ends p e below s _ _ _ T108 (mkF m 143 #[.val (.int i0), .val (.int i1), .val (.int i2), .val (.int (0 : Int32)), .val (.int (-1 : Int32)), .val (.int (3 : Int32)), .val (.int (1 : Int32)), .val (.int (0 : Int32))] [])
          refine go (fun _ => XS.iload X108.here hx rfl (hb hby at_143) rfl) ?_
          show Ends p e below s _ _ _ T108 (mkF m 145 #[.val (.int i0), .val (.int i1), .val (.int i2), .val (.int (0 : Int32)), .val (.int (-1 : Int32)), .val (.int (3 : Int32)), .val (.int (1 : Int32)), .val (.int (0 : Int32))] [(.int (3 : Int32))])
          refine go (fun _ => XT.iconstV X108.here hx rfl (4 : Int32) (hb hby at_145) (by decide)) ?_
          show Ends p e below s _ _ _ T108 (mkF m 146 #[.val (.int i0), .val (.int i1), .val (.int i2), .val (.int (0 : Int32)), .val (.int (-1 : Int32)), .val (.int (3 : Int32)), .val (.int (1 : Int32)), .val (.int (0 : Int32))] [(.int (4 : Int32)), (.int (3 : Int32))])
          refine go (fun _ => XS.icmpYes X108.here hx rfl (pc0 := 146) (pc' := 153) rfl (hb hby at_146) rfl (XT.ii_lt_t ((by decide) : (3 : Int32) < (4 : Int32))) (by decide) (by decide)) ?_
          show Ends p e below s _ _ _ T108 (mkF m 153 #[.val (.int i0), .val (.int i1), .val (.int i2), .val (.int (0 : Int32)), .val (.int (-1 : Int32)), .val (.int (3 : Int32)), .val (.int (1 : Int32)), .val (.int (0 : Int32))] [])
          refine go (fun _ => XT.iconstV X108.here hx rfl (0 : Int32) (hb hby at_153) (by decide)) ?_
          show Ends p e below s _ _ _ T108 (mkF m 154 #[.val (.int i0), .val (.int i1), .val (.int i2), .val (.int (0 : Int32)), .val (.int (-1 : Int32)), .val (.int (3 : Int32)), .val (.int (1 : Int32)), .val (.int (0 : Int32))] [(.int (0 : Int32))])
          refine go (fun _ => XS.iload X108.here hx rfl (hb hby at_154) rfl) ?_
          show Ends p e below s _ _ _ T108 (mkF m 156 #[.val (.int i0), .val (.int i1), .val (.int i2), .val (.int (0 : Int32)), .val (.int (-1 : Int32)), .val (.int (3 : Int32)), .val (.int (1 : Int32)), .val (.int (0 : Int32))] [(.int (0 : Int32)), (.int (0 : Int32))])
          refine go (fun _ => XS.icmpNo X108.here hx rfl (hb hby at_156) rfl (XT.ii_ne_f ((by decide) : (0 : Int32) = (0 : Int32)))) ?_
          show Ends p e below s _ _ _ T108 (mkF m 159 #[.val (.int i0), .val (.int i1), .val (.int i2), .val (.int (0 : Int32)), .val (.int (-1 : Int32)), .val (.int (3 : Int32)), .val (.int (1 : Int32)), .val (.int (0 : Int32))] [])
          refine go (fun _ => XT.iconstV X108.here hx rfl (1 : Int32) (hb hby at_159) (by decide)) ?_
          show Ends p e below s _ _ _ T108 (mkF m 160 #[.val (.int i0), .val (.int i1), .val (.int i2), .val (.int (0 : Int32)), .val (.int (-1 : Int32)), .val (.int (3 : Int32)), .val (.int (1 : Int32)), .val (.int (0 : Int32))] [(.int (1 : Int32))])
          refine go (fun _ => XS.goto X108.here hx rfl (pc0 := 160) (pc' := 164) rfl (hb hby at_160) (by decide) (by decide)) ?_
          show Ends p e below s _ _ _ T108 (mkF m 164 #[.val (.int i0), .val (.int i1), .val (.int i2), .val (.int (0 : Int32)), .val (.int (-1 : Int32)), .val (.int (3 : Int32)), .val (.int (1 : Int32)), .val (.int (0 : Int32))] [(.int (1 : Int32))])
          exact endN X108 hx hlk hret (by simp) (hb hby at_164) e108 ⟨rfl, N86a⟩ (by decide) (by decide)
        · show Ends p e below s _ _ _ T86 (mkF m 35 #[.val (.int i0), .val (.int i1), .val (.int i2), .val (.int (0 : Int32)), .val (.int (0 : Int32)), .unset, .unset, .unset] [(.int (-1 : Int32))])
          refine go (fun _ => XS.istore X86.here hx rfl (hb hby at_35) rfl (l' := #[.val (.int i0), .val (.int i1), .val (.int i2), .val (.int (0 : Int32)), .val (.int (0 : Int32)), .val (.int (-1 : Int32)), .unset, .unset]) rfl) ?_
          show Ends p e below s _ _ _ T86 (mkF m 37 #[.val (.int i0), .val (.int i1), .val (.int i2), .val (.int (0 : Int32)), .val (.int (0 : Int32)), .val (.int (-1 : Int32)), .unset, .unset] [])
          refine go (fun _ => XS.iloadN X86.here hx rfl (hb hby at_37) rfl) ?_
          show Ends p e below s _ _ _ T86 (mkF m 38 #[.val (.int i0), .val (.int i1), .val (.int i2), .val (.int (0 : Int32)), .val (.int (0 : Int32)), .val (.int (-1 : Int32)), .unset, .unset] [(.int (0 : Int32))])
          refine go (fun _ => XT.iconstV X86.here hx rfl (-1 : Int32) (hb hby at_38) (by decide)) ?_
          show Ends p e below s _ _ _ T86 (mkF m 39 #[.val (.int i0), .val (.int i1), .val (.int i2), .val (.int (0 : Int32)), .val (.int (0 : Int32)), .val (.int (-1 : Int32)), .unset, .unset] [(.int (-1 : Int32)), (.int (0 : Int32))])
          refine go (fun _ => XS.icmpNo X86.here hx rfl (hb hby at_39) rfl (XT.ii_lt_f ((by decide) : ¬ ((0 : Int32) < (-1 : Int32))))) ?_
          show Ends p e below s _ _ _ T86 (mkF m 42 #[.val (.int i0), .val (.int i1), .val (.int i2), .val (.int (0 : Int32)), .val (.int (0 : Int32)), .val (.int (-1 : Int32)), .unset, .unset] [])
          refine go (fun _ => XS.iloadN X86.here hx rfl (hb hby at_42) rfl) ?_
          show Ends p e below s _ _ _ T86 (mkF m 43 #[.val (.int i0), .val (.int i1), .val (.int i2), .val (.int (0 : Int32)), .val (.int (0 : Int32)), .val (.int (-1 : Int32)), .unset, .unset] [(.int (0 : Int32))])
          refine go (fun _ => XT.iconstV X86.here hx rfl (1 : Int32) (hb hby at_43) (by decide)) ?_
          show Ends p e below s _ _ _ T86 (mkF m 44 #[.val (.int i0), .val (.int i1), .val (.int i2), .val (.int (0 : Int32)), .val (.int (0 : Int32)), .val (.int (-1 : Int32)), .unset, .unset] [(.int (1 : Int32)), (.int (0 : Int32))])
          refine go (fun _ => XS.icmpNo X86.here hx rfl (hb hby at_44) rfl (XT.ii_gt_f ((by decide) : ¬ ((1 : Int32) < (0 : Int32))))) ?_
          show Ends p e below s _ _ _ T86 (mkF m 47 #[.val (.int i0), .val (.int i1), .val (.int i2), .val (.int (0 : Int32)), .val (.int (0 : Int32)), .val (.int (-1 : Int32)), .unset, .unset] [])
          refine go (fun _ => XS.iload X86.here hx rfl (hb hby at_47) rfl) ?_
          show Ends p e below s _ _ _ T86 (mkF m 49 #[.val (.int i0), .val (.int i1), .val (.int i2), .val (.int (0 : Int32)), .val (.int (0 : Int32)), .val (.int (-1 : Int32)), .unset, .unset] [(.int (0 : Int32))])
          refine go (fun _ => XT.iconstV X86.here hx rfl (-1 : Int32) (hb hby at_49) (by decide)) ?_
          show Ends p e below s _ _ _ T86 (mkF m 50 #[.val (.int i0), .val (.int i1), .val (.int i2), .val (.int (0 : Int32)), .val (.int (0 : Int32)), .val (.int (-1 : Int32)), .unset, .unset] [(.int (-1 : Int32)), (.int (0 : Int32))])
          refine go (fun _ => XS.icmpNo X86.here hx rfl (hb hby at_50) rfl (XT.ii_lt_f ((by decide) : ¬ ((0 : Int32) < (-1 : Int32))))) ?_
          show Ends p e below s _ _ _ T86 (mkF m 53 #[.val (.int i0), .val (.int i1), .val (.int i2), .val (.int (0 : Int32)), .val (.int (0 : Int32)), .val (.int (-1 : Int32)), .unset, .unset] [])
          refine go (fun _ => XS.iload X86.here hx rfl (hb hby at_53) rfl) ?_
          show Ends p e below s _ _ _ T86 (mkF m 55 #[.val (.int i0), .val (.int i1), .val (.int i2), .val (.int (0 : Int32)), .val (.int (0 : Int32)), .val (.int (-1 : Int32)), .unset, .unset] [(.int (0 : Int32))])
          refine go (fun _ => XT.iconstV X86.here hx rfl (1 : Int32) (hb hby at_55) (by decide)) ?_
          show Ends p e below s _ _ _ T86 (mkF m 56 #[.val (.int i0), .val (.int i1), .val (.int i2), .val (.int (0 : Int32)), .val (.int (0 : Int32)), .val (.int (-1 : Int32)), .unset, .unset] [(.int (1 : Int32)), (.int (0 : Int32))])
          refine go (fun _ => XS.icmpNo X86.here hx rfl (hb hby at_56) rfl (XT.ii_gt_f ((by decide) : ¬ ((1 : Int32) < (0 : Int32))))) ?_
          show Ends p e below s _ _ _ T86 (mkF m 59 #[.val (.int i0), .val (.int i1), .val (.int i2), .val (.int (0 : Int32)), .val (.int (0 : Int32)), .val (.int (-1 : Int32)), .unset, .unset] [])
          refine go (fun _ => XS.iloadN X86.here hx rfl (hb hby at_59) rfl) ?_
          show Ends p e below s _ _ _ T86 (mkF m 60 #[.val (.int i0), .val (.int i1), .val (.int i2), .val (.int (0 : Int32)), .val (.int (0 : Int32)), .val (.int (-1 : Int32)), .unset, .unset] [(.int (0 : Int32))])
          refine go (fun _ => XS.ifNo X86.here hx rfl (hb hby at_60) rfl (XT.i0_ne_f ((by decide) : (0 : Int32) = (0 : Int32)))) ?_
          show Ends p e below s _ _ _ T86 (mkF m 63 #[.val (.int i0), .val (.int i1), .val (.int i2), .val (.int (0 : Int32)), .val (.int (0 : Int32)), .val (.int (-1 : Int32)), .unset, .unset] [])
          refine go (fun _ => XS.iload X86.here hx rfl (hb hby at_63) rfl) ?_
          show Ends p e below s _ _ _ T86 (mkF m 65 #[.val (.int i0), .val (.int i1), .val (.int i2), .val (.int (0 : Int32)), .val (.int (0 : Int32)), .val (.int (-1 : Int32)), .unset, .unset] [(.int (0 : Int32))])
          refine go (fun _ => XS.ifYes X86.here hx rfl (pc0 := 65) (pc' := 72) rfl (hb hby at_65) rfl (XT.i0_eq_t ((by decide) : (0 : Int32) = (0 : Int32))) (by decide) (by decide)) ?_
          show Ends p e below s _ _ _ T86 (mkF m 72 #[.val (.int i0), .val (.int i1), .val (.int i2), .val (.int (0 : Int32)), .val (.int (0 : Int32)), .val (.int (-1 : Int32)), .unset, .unset] [])
          refine go (fun _ => XT.iconstV X86.here hx rfl (0 : Int32) (hb hby at_72) (by decide)) ?_
          show Ends p e below s _ _ _ T86 (mkF m 73 #[.val (.int i0), .val (.int i1), .val (.int i2), .val (.int (0 : Int32)), .val (.int (0 : Int32)), .val (.int (-1 : Int32)), .unset, .unset] [(.int (0 : Int32))])
          refine go (fun _ => XS.istore X86.here hx rfl (hb hby at_73) rfl (l' := #[.val (.int i0), .val (.int i1), .val (.int i2), .val (.int (0 : Int32)), .val (.int (0 : Int32)), .val (.int (-1 : Int32)), .val (.int (0 : Int32)), .unset]) rfl) ?_
          show Ends p e below s _ _ _ T86 (mkF m 75 #[.val (.int i0), .val (.int i1), .val (.int i2), .val (.int (0 : Int32)), .val (.int (0 : Int32)), .val (.int (-1 : Int32)), .val (.int (0 : Int32)), .unset] [])
          refine go (fun _ => XS.iload X86.here hx rfl (hb hby at_75) rfl) ?_
          show Ends p e below s _ _ _ T86 (mkF m 77 #[.val (.int i0), .val (.int i1), .val (.int i2), .val (.int (0 : Int32)), .val (.int (0 : Int32)), .val (.int (-1 : Int32)), .val (.int (0 : Int32)), .unset] [(.int (0 : Int32))])
          refine go (fun _ => XS.ifNo X86.here hx rfl (hb hby at_77) rfl (XT.i0_ne_f ((by decide) : (0 : Int32) = (0 : Int32)))) ?_
          show Ends p e below s _ _ _ T86 (mkF m 80 #[.val (.int i0), .val (.int i1), .val (.int i2), .val (.int (0 : Int32)), .val (.int (0 : Int32)), .val (.int (-1 : Int32)), .val (.int (0 : Int32)), .unset] [])
          refine go (fun _ => XS.iload X86.here hx rfl (hb hby at_80) rfl) ?_
          show Ends p e below s _ _ _ T86 (mkF m 82 #[.val (.int i0), .val (.int i1), .val (.int i2), .val (.int (0 : Int32)), .val (.int (0 : Int32)), .val (.int (-1 : Int32)), .val (.int (0 : Int32)), .unset] [(.int (-1 : Int32))])
          refine go (fun _ => XT.iconstV X86.here hx rfl (-1 : Int32) (hb hby at_82) (by decide)) ?_
          show Ends p e below s _ _ _ T86 (mkF m 83 #[.val (.int i0), .val (.int i1), .val (.int i2), .val (.int (0 : Int32)), .val (.int (0 : Int32)), .val (.int (-1 : Int32)), .val (.int (0 : Int32)), .unset] [(.int (-1 : Int32)), (.int (-1 : Int32))])
          refine go (fun _ => XS.icmpNo X86.here hx rfl (hb hby at_83) rfl (XT.ii_ne_f ((by decide) : (-1 : Int32) = (-1 : Int32)))) ?_
          show Ends p e below s _ _ _ T86 (mkF m 86 #[.val (.int i0), .val (.int i1), .val (.int i2), .val (.int (0 : Int32)), .val (.int (0 : Int32)), .val (.int (-1 : Int32)), .val (.int (0 : Int32)), .unset] [])
          refine go (fun _ => XT.iconstV X86.here hx rfl (1 : Int32) (hb hby at_86) (by decide)) ?_
          show Ends p e below s _ _ _ T86 (mkF m 87 #[.val (.int i0), .val (.int i1), .val (.int i2), .val (.int (0 : Int32)), .val (.int (0 : Int32)), .val (.int (-1 : Int32)), .val (.int (0 : Int32)), .unset] [(.int (1 : Int32))])
          refine go (fun _ => XS.goto X86.here hx rfl (pc0 := 87) (pc' := 91) rfl (hb hby at_87) (by decide) (by decide)) ?_
          show Ends p e below s _ _ _ T86 (mkF m 91 #[.val (.int i0), .val (.int i1), .val (.int i2), .val (.int (0 : Int32)), .val (.int (0 : Int32)), .val (.int (-1 : Int32)), .val (.int (0 : Int32)), .unset] [(.int (1 : Int32))])
          exact endN X86 hx hlk hret (by simp) (hb hby at_91) e86 ⟨rfl, N86a⟩ (by decide) (by decide)
        · show Ends p e below s _ _ _ T86 (mkF m 35 #[.val (.int i0), .val (.int i1), .val (.int i2), .val (.int (0 : Int32)), .val (.int (1 : Int32)), .unset, .unset, .unset] [(.int (1 : Int32))])
          refine go (fun _ => XS.istore X86.here hx rfl (hb hby at_35) rfl (l' := #[.val (.int i0), .val (.int i1), .val (.int i2), .val (.int (0 : Int32)), .val (.int (1 : Int32)), .val (.int (1 : Int32)), .unset, .unset]) rfl) ?_
          show Ends p e below s _ _ _ T86 (mkF m 37 #[.val (.int i0), .val (.int i1), .val (.int i2), .val (.int (0 : Int32)), .val (.int (1 : Int32)), .val (.int (1 : Int32)), .unset, .unset] [])
          refine go (fun _ => XS.iloadN X86.here hx rfl (hb hby at_37) rfl) ?_
          show Ends p e below s _ _ _ T86 (mkF m 38 #[.val (.int i0), .val (.int i1), .val (.int i2), .val (.int (0 : Int32)), .val (.int (1 : Int32)), .val (.int (1 : Int32)), .unset, .unset] [(.int (0 : Int32))])
          refine go (fun _ => XT.iconstV X86.here hx rfl (-1 : Int32) (hb hby at_38) (by decide)) ?_
          show Ends p e below s _ _ _ T86 (mkF m 39 #[.val (.int i0), .val (.int i1), .val (.int i2), .val (.int (0 : Int32)), .val (.int (1 : Int32)), .val (.int (1 : Int32)), .unset, .unset] [(.int (-1 : Int32)), (.int (0 : Int32))])
          refine go (fun _ => XS.icmpNo X86.here hx rfl (hb hby at_39) rfl (XT.ii_lt_f ((by decide) : ¬ ((0 : Int32) < (-1 : Int32))))) ?_
          show Ends p e below s _ _ _ T86 (mkF m 42 #[.val (.int i0), .val (.int i1), .val (.int i2), .val (.int (0 : Int32)), .val (.int (1 : Int32)), .val (.int (1 : Int32)), .unset, .unset] [])
          refine go (fun _ => XS.iloadN X86.here hx rfl (hb hby at_42) rfl) ?_
          show Ends p e below s _ _ _ T86 (mkF m 43 #[.val (.int i0), .val (.int i1), .val (.int i2), .val (.int (0 : Int32)), .val (.int (1 : Int32)), .val (.int (1 : Int32)), .unset, .unset] [(.int (0 : Int32))])
          refine go (fun _ => XT.iconstV X86.here hx rfl (1 : Int32) (hb hby at_43) (by decide)) ?_
          show Ends p e below s _ _ _ T86 (mkF m 44 #[.val (.int i0), .val (.int i1), .val (.int i2), .val (.int (0 : Int32)), .val (.int (1 : Int32)), .val (.int (1 : Int32)), .unset, .unset] [(.int (1 : Int32)), (.int (0 : Int32))])
          refine go (fun _ => XS.icmpNo X86.here hx rfl (hb hby at_44) rfl (XT.ii_gt_f ((by decide) : ¬ ((1 : Int32) < (0 : Int32))))) ?_
          show Ends p e below s _ _ _ T86 (mkF m 47 #[.val (.int i0), .val (.int i1), .val (.int i2), .val (.int (0 : Int32)), .val (.int (1 : Int32)), .val (.int (1 : Int32)), .unset, .unset] [])
          refine go (fun _ => XS.iload X86.here hx rfl (hb hby at_47) rfl) ?_
          show Ends p e below s _ _ _ T86 (mkF m 49 #[.val (.int i0), .val (.int i1), .val (.int i2), .val (.int (0 : Int32)), .val (.int (1 : Int32)), .val (.int (1 : Int32)), .unset, .unset] [(.int (1 : Int32))])
          refine go (fun _ => XT.iconstV X86.here hx rfl (-1 : Int32) (hb hby at_49) (by decide)) ?_
          show Ends p e below s _ _ _ T86 (mkF m 50 #[.val (.int i0), .val (.int i1), .val (.int i2), .val (.int (0 : Int32)), .val (.int (1 : Int32)), .val (.int (1 : Int32)), .unset, .unset] [(.int (-1 : Int32)), (.int (1 : Int32))])
          refine go (fun _ => XS.icmpNo X86.here hx rfl (hb hby at_50) rfl (XT.ii_lt_f ((by decide) : ¬ ((1 : Int32) < (-1 : Int32))))) ?_
          show Ends p e below s _ _ _ T86 (mkF m 53 #[.val (.int i0), .val (.int i1), .val (.int i2), .val (.int (0 : Int32)), .val (.int (1 : Int32)), .val (.int (1 : Int32)), .unset, .unset] [])
          refine go (fun _ => XS.iload X86.here hx rfl (hb hby at_53) rfl) ?_
          show Ends p e below s _ _ _ T86 (mkF m 55 #[.val (.int i0), .val (.int i1), .val (.int i2), .val (.int (0 : Int32)), .val (.int (1 : Int32)), .val (.int (1 : Int32)), .unset, .unset] [(.int (1 : Int32))])
          refine go (fun _ => XT.iconstV X86.here hx rfl (1 : Int32) (hb hby at_55) (by decide)) ?_
          show Ends p e below s _ _ _ T86 (mkF m 56 #[.val (.int i0), .val (.int i1), .val (.int i2), .val (.int (0 : Int32)), .val (.int (1 : Int32)), .val (.int (1 : Int32)), .unset, .unset] [(.int (1 : Int32)), (.int (1 : Int32))])
          refine go (fun _ => XS.icmpNo X86.here hx rfl (hb hby at_56) rfl (XT.ii_gt_f ((by decide) : ¬ ((1 : Int32) < (1 : Int32))))) ?_
          show Ends p e below s _ _ _ T86 (mkF m 59 #[.val (.int i0), .val (.int i1), .val (.int i2), .val (.int (0 : Int32)), .val (.int (1 : Int32)), .val (.int (1 : Int32)), .unset, .unset] [])
          refine go (fun _ => XS.iloadN X86.here hx rfl (hb hby at_59) rfl) ?_
          show Ends p e below s _ _ _ T86 (mkF m 60 #[.val (.int i0), .val (.int i1), .val (.int i2), .val (.int (0 : Int32)), .val (.int (1 : Int32)), .val (.int (1 : Int32)), .unset, .unset] [(.int (0 : Int32))])
          refine go (fun _ => XS.ifNo X86.here hx rfl (hb hby at_60) rfl (XT.i0_ne_f ((by decide) : (0 : Int32) = (0 : Int32)))) ?_
          show Ends p e below s _ _ _ T86 (mkF m 63 #[.val (.int i0), .val (.int i1), .val (.int i2), .val (.int (0 : Int32)), .val (.int (1 : Int32)), .val (.int (1 : Int32)), .unset, .unset] [])
          refine go (fun _ => XS.iload X86.here hx rfl (hb hby at_63) rfl) ?_
          show Ends p e below s _ _ _ T86 (mkF m 65 #[.val (.int i0), .val (.int i1), .val (.int i2), .val (.int (0 : Int32)), .val (.int (1 : Int32)), .val (.int (1 : Int32)), .unset, .unset] [(.int (1 : Int32))])
          refine go (fun _ => XS.ifNo X86.here hx rfl (hb hby at_65) rfl (XT.i0_eq_f ((by decide) : ¬ ((1 : Int32) = (0 : Int32))))) ?_
          show Ends p e below s _ _ _ T86 (mkF m 68 #[.val (.int i0), .val (.int i1), .val (.int i2), .val (.int (0 : Int32)), .val (.int (1 : Int32)), .val (.int (1 : Int32)), .unset, .unset] [])
          refine go (fun _ => XT.iconstV X86.here hx rfl (1 : Int32) (hb hby at_68) (by decide)) ?_
          show Ends p e below s _ _ _ T86 (mkF m 69 #[.val (.int i0), .val (.int i1), .val (.int i2), .val (.int (0 : Int32)), .val (.int (1 : Int32)), .val (.int (1 : Int32)), .unset, .unset] [(.int (1 : Int32))])
          refine go (fun _ => XS.goto X86.here hx rfl (pc0 := 69) (pc' := 73) rfl (hb hby at_69) (by decide) (by decide)) ?_
          show Ends p e below s _ _ _ T86 (mkF m 73 #[.val (.int i0), .val (.int i1), .val (.int i2), .val (.int (0 : Int32)), .val (.int (1 : Int32)), .val (.int (1 : Int32)), .unset, .unset] [(.int (1 : Int32))])
          refine go (fun _ => XS.istore X86.here hx rfl (hb hby at_73) rfl (l' := #[.val (.int i0), .val (.int i1), .val (.int i2), .val (.int (0 : Int32)), .val (.int (1 : Int32)), .val (.int (1 : Int32)), .val (.int (1 : Int32)), .unset]) rfl) ?_
          show Ends p e below s _ _ _ T86 (mkF m 75 #[.val (.int i0), .val (.int i1), .val (.int i2), .val (.int (0 : Int32)), .val (.int (1 : Int32)), .val (.int (1 : Int32)), .val (.int (1 : Int32)), .unset] [])
          refine go (fun _ => XS.iload X86.here hx rfl (hb hby at_75) rfl) ?_
          show Ends p e below s _ _ _ T86 (mkF m 77 #[.val (.int i0), .val (.int i1), .val (.int i2), .val (.int (0 : Int32)), .val (.int (1 : Int32)), .val (.int (1 : Int32)), .val (.int (1 : Int32)), .unset] [(.int (1 : Int32))])
          refine go (fun _ => XS.ifYes X86.here hx rfl (pc0 := 77) (pc' := 92) rfl (hb hby at_77) rfl (XT.i0_ne_t ((by decide) : ¬ ((1 : Int32) = (0 : Int32)))) (by decide) (by decide)) ?_
          show Ends p e below s _ _ _ T86 (mkF m 92 #[.val (.int i0), .val (.int i1), .val (.int i2), .val (.int (0 : Int32)), .val (.int (1 : Int32)), .val (.int (1 : Int32)), .val (.int (1 : Int32)), .unset] [])
          refine go (fun _ => XS.iload X86.here hx rfl (hb hby at_92) rfl) ?_
          show Ends p e below s _ _ _ T86 (mkF m 94 #[.val (.int i0), .val (.int i1), .val (.int i2), .val (.int (0 : Int32)), .val (.int (1 : Int32)), .val (.int (1 : Int32)), .val (.int (1 : Int32)), .unset] [(.int (1 : Int32))])
          refine go (fun _ => XS.ifNo X86.here hx rfl (hb hby at_94) rfl (XT.i0_lt_f ((by decide) : ¬ ((1 : Int32) < (0 : Int32))))) ?_
          show Ends p e below s _ _ _ T86 (mkF m 97 #[.val (.int i0), .val (.int i1), .val (.int i2), .val (.int (0 : Int32)), .val (.int (1 : Int32)), .val (.int (1 : Int32)), .val (.int (1 : Int32)), .unset] [])
          refine go (fun _ => XS.iload X86.here hx rfl (hb hby at_97) rfl) ?_
          show Ends p e below s _ _ _ T86 (mkF m 99 #[.val (.int i0), .val (.int i1), .val (.int i2), .val (.int (0 : Int32)), .val (.int (1 : Int32)), .val (.int (1 : Int32)), .val (.int (1 : Int32)), .unset] [(.int (1 : Int32))])
          refine go (fun _ => XT.bipushV X86.here hx rfl (8 : Int32) (hb hby at_99) (by decide)) ?_
          show Ends p e below s _ _ _ T86 (mkF m 101 #[.val (.int i0), .val (.int i1), .val (.int i2), .val (.int (0 : Int32)), .val (.int (1 : Int32)), .val (.int (1 : Int32)), .val (.int (1 : Int32)), .unset] [(.int (8 : Int32)), (.int (1 : Int32))])
          refine go (fun _ => XS.icmpYes X86.here hx rfl (pc0 := 101) (pc' := 106) rfl (hb hby at_101) rfl (XT.ii_lt_t ((by decide) : (1 : Int32) < (8 : Int32))) (by decide) (by decide)) ?_
          show Ends p e below s _ _ _ T86 (mkF m 106 #[.val (.int i0), .val (.int i1), .val (.int i2), .val (.int (0 : Int32)), .val (.int (1 : Int32)), .val (.int (1 : Int32)), .val (.int (1 : Int32)), .unset] [])
          refine go (fun _ => XS.iloadN X86.here hx rfl (hb hby at_106) rfl) ?_
          show Ends p e below s _ _ _ T86 (mkF m 107 #[.val (.int i0), .val (.int i1), .val (.int i2), .val (.int (0 : Int32)), .val (.int (1 : Int32)), .val (.int (1 : Int32)), .val (.int (1 : Int32)), .unset] [(.int (0 : Int32))])
          refine go (fun _ => XS.ifYes X86.here hx rfl (pc0 := 107) (pc' := 119) rfl (hb hby at_107) rfl (XT.i0_eq_t ((by decide) : (0 : Int32) = (0 : Int32))) (by decide) (by decide)) ?_
          show Ends p e below s _ _ _ T86 (mkF m 119 #[.val (.int i0), .val (.int i1), .val (.int i2), .val (.int (0 : Int32)), .val (.int (1 : Int32)), .val (.int (1 : Int32)), .val (.int (1 : Int32)), .unset] [])
          refine go (fun _ => XT.iconstV X86.here hx rfl (0 : Int32) (hb hby at_119) (by decide)) ?_
          show Ends p e below s _ _ _ T86 (mkF m 120 #[.val (.int i0), .val (.int i1), .val (.int i2), .val (.int (0 : Int32)), .val (.int (1 : Int32)), .val (.int (1 : Int32)), .val (.int (1 : Int32)), .unset] [(.int (0 : Int32))])
          refine go (fun _ => XS.istore X86.here hx rfl (hb hby at_120) rfl (l' := #[.val (.int i0), .val (.int i1), .val (.int i2), .val (.int (0 : Int32)), .val (.int (1 : Int32)), .val (.int (1 : Int32)), .val (.int (1 : Int32)), .val (.int (0 : Int32))]) rfl) ?_
          show Ends p e below s _ _ _ T86 (mkF m 122 #[.val (.int i0), .val (.int i1), .val (.int i2), .val (.int (0 : Int32)), .val (.int (1 : Int32)), .val (.int (1 : Int32)), .val (.int (1 : Int32)), .val (.int (0 : Int32))] [])
          obtain ⟨T111, X111, e111, s111⟩ := getS2 X86 hx hZ hown (host := "") (Or.inl (hw _ (List.mem_of_getElem? (i := 8) rfl))) Via.refl e86 (Sta.ext O0 SC) (g := (mkF m 122 #[.val (.int i0), .val (.int i1), .val (.int i2), .val (.int (0 : Int32)), .val (.int (1 : Int32)), .val (.int (1 : Int32)), .val (.int (1 : Int32)), .val (.int (0 : Int32))] [])) rfl (hb hby at_122)
          refine go s111 ?_
          show Ends p e below s _ _ _ T111 (mkF m 125 #[.val (.int i0), .val (.int i1), .val (.int i2), .val (.int (0 : Int32)), .val (.int (1 : Int32)), .val (.int (1 : Int32)), .val (.int (1 : Int32)), .val (.int (0 : Int32))] [(.ref aC)])
          refine go (fun _ => XS.iload X111.here hx rfl (hb hby at_125) rfl) ?_
          show Ends p e below s _ _ _ T111 (mkF m 127 #[.val (.int i0), .val (.int i1), .val (.int i2), .val (.int (0 : Int32)), .val (.int (1 : Int32)), .val (.int (1 : Int32)), .val (.int (1 : Int32)), .val (.int (0 : Int32))] [(.int (1 : Int32)), (.ref aC)])
          have F112 := (Arv.ext VC O0)
          obtain ⟨c113, A113, -, S113, M113, H113, -⟩ := id F112
          have B113 := inb_of S113 (j := (1 : Int32)) (by decide)
          refine go (fun _ => X111.iaload hx (j := (1 : Int32)) (v := (.int (0 : Int32))) (by rw [e111]; exact A113.1) (State.isArrayOf_alike hZ.alike A113.2.1) A113.2.2 B113 (H113.at B113 rfl) (g := (mkF m 127 #[.val (.int i0), .val (.int i1), .val (.int i2), .val (.int (0 : Int32)), .val (.int (1 : Int32)), .val (.int (1 : Int32)), .val (.int (1 : Int32)), .val (.int (0 : Int32))] [(.int (1 : Int32)), (.ref aC)])) rfl rfl (hb hby at_127) _) ?_
          show Ends p e below s _ _ _ T111 (mkF m 128 #[.val (.int i0), .val (.int i1), .val (.int i2), .val (.int (0 : Int32)), .val (.int (1 : Int32)), .val (.int (1 : Int32)), .val (.int (1 : Int32)), .val (.int (0 : Int32))] [(.int (0 : Int32))])
          refine go (fun _ => XS.iloadN X111.here hx rfl (hb hby at_128) rfl) ?_
          show Ends p e below s _ _ _ T111 (mkF m 129 #[.val (.int i0), .val (.int i1), .val (.int i2), .val (.int (0 : Int32)), .val (.int (1 : Int32)), .val (.int (1 : Int32)), .val (.int (1 : Int32)), .val (.int (0 : Int32))] [(.int (0 : Int32)), (.int (0 : Int32))])
          refine go (fun _ => XS.icmpNo X111.here hx rfl (hb hby at_129) rfl (XT.ii_ne_f ((by decide) : (0 : Int32) = (0 : Int32)))) ?_
          show Ends p e below s _ _ _ T111 (mkF m 132 #[.val (.int i0), .val (.int i1), .val (.int i2), .val (.int (0 : Int32)), .val (.int (1 : Int32)), .val (.int (1 : Int32)), .val (.int (1 : Int32)), .val (.int (0 : Int32))] [])
          obtain ⟨T114, X114, e114, s114⟩ := getS2 X111 hx hZ hown (host := "") (Or.inl (hw _ (List.mem_of_getElem? (i := 9) rfl))) Via.refl e111 (Sta.ext O0 SR) (g := (mkF m 132 #[.val (.int i0), .val (.int i1), .val (.int i2), .val (.int (0 : Int32)), .val (.int (1 : Int32)), .val (.int (1 : Int32)), .val (.int (1 : Int32)), .val (.int (0 : Int32))] [])) rfl (hb hby at_132)
          refine go s114 ?_
          show Ends p e below s _ _ _ T114 (mkF m 135 #[.val (.int i0), .val (.int i1), .val (.int i2), .val (.int (0 : Int32)), .val (.int (1 : Int32)), .val (.int (1 : Int32)), .val (.int (1 : Int32)), .val (.int (0 : Int32))] [(.ref aR)])
          refine go (fun _ => XS.iload X114.here hx rfl (hb hby at_135) rfl) ?_
          show Ends p e below s _ _ _ T114 (mkF m 137 #[.val (.int i0), .val (.int i1), .val (.int i2), .val (.int (0 : Int32)), .val (.int (1 : Int32)), .val (.int (1 : Int32)), .val (.int (1 : Int32)), .val (.int (0 : Int32))] [(.int (1 : Int32)), (.ref aR)])
          have F115 := (Arv.ext VR O0)
          obtain ⟨c116, A116, -, S116, M116, H116, -⟩ := id F115
          have B116 := inb_of S116 (j := (1 : Int32)) (by decide)
          refine go (fun _ => X114.iaload hx (j := (1 : Int32)) (v := (.int (1 : Int32))) (by rw [e114]; exact A116.1) (State.isArrayOf_alike hZ.alike A116.2.1) A116.2.2 B116 (H116.at B116 rfl) (g := (mkF m 137 #[.val (.int i0), .val (.int i1), .val (.int i2), .val (.int (0 : Int32)), .val (.int (1 : Int32)), .val (.int (1 : Int32)), .val (.int (1 : Int32)), .val (.int (0 : Int32))] [(.int (1 : Int32)), (.ref aR)])) rfl rfl (hb hby at_137) _) ?_
          show Ends p e below s _ _ _ T114 (mkF m 138 #[.val (.int i0), .val (.int i1), .val (.int i2), .val (.int (0 : Int32)), .val (.int (1 : Int32)), .val (.int (1 : Int32)), .val (.int (1 : Int32)), .val (.int (0 : Int32))] [(.int (1 : Int32))])
          refine go (fun _ => XS.iload X114.here hx rfl (hb hby at_138) rfl) ?_
          show Ends p e below s _ _ _ T114 (mkF m 140 #[.val (.int i0), .val (.int i1), .val (.int i2), .val (.int (0 : Int32)), .val (.int (1 : Int32)), .val (.int (1 : Int32)), .val (.int (1 : Int32)), .val (.int (0 : Int32))] [(.int (1 : Int32)), (.int (1 : Int32))])
          refine go (fun _ => XS.icmpNo X114.here hx rfl (hb hby at_140) rfl (XT.ii_ne_f ((by decide) : (1 : Int32) = (1 : Int32)))) ?_
          show Ends p e below s _ _ _ T114 (mkF m 143 #[.val (.int i0), .val (.int i1), .val (.int i2), .val (.int (0 : Int32)), .val (.int (1 : Int32)), .val (.int (1 : Int32)), .val (.int (1 : Int32)), .val (.int (0 : Int32))] [])
          refine go (fun _ => XS.iload X114.here hx rfl (hb hby at_143) rfl) ?_
          show Ends p e below s _ _ _ T114 (mkF m 145 #[.val (.int i0), .val (.int i1), .val (.int i2), .val (.int (0 : Int32)), .val (.int (1 : Int32)), .val (.int (1 : Int32)), .val (.int (1 : Int32)), .val (.int (0 : Int32))] [(.int (1 : Int32))])
          refine go (fun _ => XT.iconstV X114.here hx rfl (4 : Int32) (hb hby at_145) (by decide)) ?_
          show Ends p e below s _ _ _ T114 (mkF m 146 #[.val (.int i0), .val (.int i1), .val (.int i2), .val (.int (0 : Int32)), .val (.int (1 : Int32)), .val (.int (1 : Int32)), .val (.int (1 : Int32)), .val (.int (0 : Int32))] [(.int (4 : Int32)), (.int (1 : Int32))])
          refine go (fun _ => XS.icmpYes X114.here hx rfl (pc0 := 146) (pc' := 153) rfl (hb hby at_146) rfl (XT.ii_lt_t ((by decide) : (1 : Int32) < (4 : Int32))) (by decide) (by decide)) ?_
          show Ends p e below s _ _ _ T114 (mkF m 153 #[.val (.int i0), .val (.int i1), .val (.int i2), .val (.int (0 : Int32)), .val (.int (1 : Int32)), .val (.int (1 : Int32)), .val (.int (1 : Int32)), .val (.int (0 : Int32))] [])
          refine go (fun _ => XT.iconstV X114.here hx rfl (0 : Int32) (hb hby at_153) (by decide)) ?_
          show Ends p e below s _ _ _ T114 (mkF m 154 #[.val (.int i0), .val (.int i1), .val (.int i2), .val (.int (0 : Int32)), .val (.int (1 : Int32)), .val (.int (1 : Int32)), .val (.int (1 : Int32)), .val (.int (0 : Int32))] [(.int (0 : Int32))])
          refine go (fun _ => XS.iload X114.here hx rfl (hb hby at_154) rfl) ?_
          show Ends p e below s _ _ _ T114 (mkF m 156 #[.val (.int i0), .val (.int i1), .val (.int i2), .val (.int (0 : Int32)), .val (.int (1 : Int32)), .val (.int (1 : Int32)), .val (.int (1 : Int32)), .val (.int (0 : Int32))] [(.int (0 : Int32)), (.int (0 : Int32))])
          refine go (fun _ => XS.icmpNo X114.here hx rfl (hb hby at_156) rfl (XT.ii_ne_f ((by decide) : (0 : Int32) = (0 : Int32)))) ?_
          show Ends p e below s _ _ _ T114 (mkF m 159 #[.val (.int i0), .val (.int i1), .val (.int i2), .val (.int (0 : Int32)), .val (.int (1 : Int32)), .val (.int (1 : Int32)), .val (.int (1 : Int32)), .val (.int (0 : Int32))] [])
          refine go (fun _ => XT.iconstV X114.here hx rfl (1 : Int32) (hb hby at_159) (by decide)) ?_
          show Ends p e below s _ _ _ T114 (mkF m 160 #[.val (.int i0), .val (.int i1), .val (.int i2), .val (.int (0 : Int32)), .val (.int (1 : Int32)), .val (.int (1 : Int32)), .val (.int (1 : Int32)), .val (.int (0 : Int32))] [(.int (1 : Int32))])
          refine go (fun _ => XS.goto X114.here hx rfl (pc0 := 160) (pc' := 164) rfl (hb hby at_160) (by decide) (by decide)) ?_
          show Ends p e below s _ _ _ T114 (mkF m 164 #[.val (.int i0), .val (.int i1), .val (.int i2), .val (.int (0 : Int32)), .val (.int (1 : Int32)), .val (.int (1 : Int32)), .val (.int (1 : Int32)), .val (.int (0 : Int32))] [(.int (1 : Int32))])
          exact endN X114 hx hlk hret (by simp) (hb hby at_164) e114 ⟨rfl, N86a⟩ (by decide) (by decide)
        · rw [own_mvr (Or.inr c.2)]
          show Ends p e below s _ _ _ T86 (mkF m 35 #[.val (.int i0), .val (.int i1), .val (.int i2), .val (.int (0 : Int32)), .val (.int z85_0), .unset, .unset, .unset] [(.int (-1 : Int32))])
          refine go (fun _ => XS.istore X86.here hx rfl (hb hby at_35) rfl (l' := #[.val (.int i0), .val (.int i1), .val (.int i2), .val (.int (0 : Int32)), .val (.int z85_0), .val (.int (-1 : Int32)), .unset, .unset]) rfl) ?_
          show Ends p e below s _ _ _ T86 (mkF m 37 #[.val (.int i0), .val (.int i1), .val (.int i2), .val (.int (0 : Int32)), .val (.int z85_0), .val (.int (-1 : Int32)), .unset, .unset] [])
          refine go (fun _ => XS.iloadN X86.here hx rfl (hb hby at_37) rfl) ?_
          show Ends p e below s _ _ _ T86 (mkF m 38 #[.val (.int i0), .val (.int i1), .val (.int i2), .val (.int (0 : Int32)), .val (.int z85_0), .val (.int (-1 : Int32)), .unset, .unset] [(.int (0 : Int32))])
          refine go (fun _ => XT.iconstV X86.here hx rfl (-1 : Int32) (hb hby at_38) (by decide)) ?_
          show Ends p e below s _ _ _ T86 (mkF m 39 #[.val (.int i0), .val (.int i1), .val (.int i2), .val (.int (0 : Int32)), .val (.int z85_0), .val (.int (-1 : Int32)), .unset, .unset] [(.int (-1 : Int32)), (.int (0 : Int32))])
          refine go (fun _ => XS.icmpNo X86.here hx rfl (hb hby at_39) rfl (XT.ii_lt_f ((by decide) : ¬ ((0 : Int32) < (-1 : Int32))))) ?_
          show Ends p e below s _ _ _ T86 (mkF m 42 #[.val (.int i0), .val (.int i1), .val (.int i2), .val (.int (0 : Int32)), .val (.int z85_0), .val (.int (-1 : Int32)), .unset, .unset] [])
          refine go (fun _ => XS.iloadN X86.here hx rfl (hb hby at_42) rfl) ?_
          show Ends p e below s _ _ _ T86 (mkF m 43 #[.val (.int i0), .val (.int i1), .val (.int i2), .val (.int (0 : Int32)), .val (.int z85_0), .val (.int (-1 : Int32)), .unset, .unset] [(.int (0 : Int32))])
          refine go (fun _ => XT.iconstV X86.here hx rfl (1 : Int32) (hb hby at_43) (by decide)) ?_
          show Ends p e below s _ _ _ T86 (mkF m 44 #[.val (.int i0), .val (.int i1), .val (.int i2), .val (.int (0 : Int32)), .val (.int z85_0), .val (.int (-1 : Int32)), .unset, .unset] [(.int (1 : Int32)), (.int (0 : Int32))])
          refine go (fun _ => XS.icmpNo X86.here hx rfl (hb hby at_44) rfl (XT.ii_gt_f ((by decide) : ¬ ((1 : Int32) < (0 : Int32))))) ?_
          show Ends p e below s _ _ _ T86 (mkF m 47 #[.val (.int i0), .val (.int i1), .val (.int i2), .val (.int (0 : Int32)), .val (.int z85_0), .val (.int (-1 : Int32)), .unset, .unset] [])
          refine go (fun _ => XS.iload X86.here hx rfl (hb hby at_47) rfl) ?_
          show Ends p e below s _ _ _ T86 (mkF m 49 #[.val (.int i0), .val (.int i1), .val (.int i2), .val (.int (0 : Int32)), .val (.int z85_0), .val (.int (-1 : Int32)), .unset, .unset] [(.int z85_0)])
          refine go (fun _ => XT.iconstV X86.here hx rfl (-1 : Int32) (hb hby at_49) (by decide)) ?_
          show Ends p e below s _ _ _ T86 (mkF m 50 #[.val (.int i0), .val (.int i1), .val (.int i2), .val (.int (0 : Int32)), .val (.int z85_0), .val (.int (-1 : Int32)), .unset, .unset] [(.int (-1 : Int32)), (.int z85_0)])
          refine go (fun _ => XS.icmpNo X86.here hx rfl (hb hby at_50) rfl (XT.ii_lt_f c.1)) ?_
          show Ends p e below s _ _ _ T86 (mkF m 53 #[.val (.int i0), .val (.int i1), .val (.int i2), .val (.int (0 : Int32)), .val (.int z85_0), .val (.int (-1 : Int32)), .unset, .unset] [])
          refine go (fun _ => XS.iload X86.here hx rfl (hb hby at_53) rfl) ?_
          show Ends p e below s _ _ _ T86 (mkF m 55 #[.val (.int i0), .val (.int i1), .val (.int i2), .val (.int (0 : Int32)), .val (.int z85_0), .val (.int (-1 : Int32)), .unset, .unset] [(.int z85_0)])
          refine go (fun _ => XT.iconstV X86.here hx rfl (1 : Int32) (hb hby at_55) (by decide)) ?_
          show Ends p e below s _ _ _ T86 (mkF m 56 #[.val (.int i0), .val (.int i1), .val (.int i2), .val (.int (0 : Int32)), .val (.int z85_0), .val (.int (-1 : Int32)), .unset, .unset] [(.int (1 : Int32)), (.int z85_0)])
          refine go (fun _ => XS.icmpYes X86.here hx rfl (pc0 := 56) (pc' := 72) rfl (hb hby at_56) rfl (XT.ii_gt_t c.2) (by decide) (by decide)) ?_
          show Ends p e below s _ _ _ T86 (mkF m 72 #[.val (.int i0), .val (.int i1), .val (.int i2), .val (.int (0 : Int32)), .val (.int z85_0), .val (.int (-1 : Int32)), .unset, .unset] [])
          refine go (fun _ => XT.iconstV X86.here hx rfl (0 : Int32) (hb hby at_72) (by decide)) ?_
          show Ends p e below s _ _ _ T86 (mkF m 73 #[.val (.int i0), .val (.int i1), .val (.int i2), .val (.int (0 : Int32)), .val (.int z85_0), .val (.int (-1 : Int32)), .unset, .unset] [(.int (0 : Int32))])
          refine go (fun _ => XS.istore X86.here hx rfl (hb hby at_73) rfl (l' := #[.val (.int i0), .val (.int i1), .val (.int i2), .val (.int (0 : Int32)), .val (.int z85_0), .val (.int (-1 : Int32)), .val (.int (0 : Int32)), .unset]) rfl) ?_
          show Ends p e below s _ _ _ T86 (mkF m 75 #[.val (.int i0), .val (.int i1), .val (.int i2), .val (.int (0 : Int32)), .val (.int z85_0), .val (.int (-1 : Int32)), .val (.int (0 : Int32)), .unset] [])
          refine go (fun _ => XS.iload X86.here hx rfl (hb hby at_75) rfl) ?_
          show Ends p e below s _ _ _ T86 (mkF m 77 #[.val (.int i0), .val (.int i1), .val (.int i2), .val (.int (0 : Int32)), .val (.int z85_0), .val (.int (-1 : Int32)), .val (.int (0 : Int32)), .unset] [(.int (0 : Int32))])
          refine go (fun _ => XS.ifNo X86.here hx rfl (hb hby at_77) rfl (XT.i0_ne_f ((by decide) : (0 : Int32) = (0 : Int32)))) ?_
          show Ends p e below s _ _ _ T86 (mkF m 80 #[.val (.int i0), .val (.int i1), .val (.int i2), .val (.int (0 : Int32)), .val (.int z85_0), .val (.int (-1 : Int32)), .val (.int (0 : Int32)), .unset] [])
          refine go (fun _ => XS.iload X86.here hx rfl (hb hby at_80) rfl) ?_
          show Ends p e below s _ _ _ T86 (mkF m 82 #[.val (.int i0), .val (.int i1), .val (.int i2), .val (.int (0 : Int32)), .val (.int z85_0), .val (.int (-1 : Int32)), .val (.int (0 : Int32)), .unset] [(.int (-1 : Int32))])
          refine go (fun _ => XT.iconstV X86.here hx rfl (-1 : Int32) (hb hby at_82) (by decide)) ?_
          show Ends p e below s _ _ _ T86 (mkF m 83 #[.val (.int i0), .val (.int i1), .val (.int i2), .val (.int (0 : Int32)), .val (.int z85_0), .val (.int (-1 : Int32)), .val (.int (0 : Int32)), .unset] [(.int (-1 : Int32)), (.int (-1 : Int32))])
          refine go (fun _ => XS.icmpNo X86.here hx rfl (hb hby at_83) rfl (XT.ii_ne_f ((by decide) : (-1 : Int32) = (-1 : Int32)))) ?_
          show Ends p e below s _ _ _ T86 (mkF m 86 #[.val (.int i0), .val (.int i1), .val (.int i2), .val (.int (0 : Int32)), .val (.int z85_0), .val (.int (-1 : Int32)), .val (.int (0 : Int32)), .unset] [])
          refine go (fun _ => XT.iconstV X86.here hx rfl (1 : Int32) (hb hby at_86) (by decide)) ?_
          show Ends p e below s _ _ _ T86 (mkF m 87 #[.val (.int i0), .val (.int i1), .val (.int i2), .val (.int (0 : Int32)), .val (.int z85_0), .val (.int (-1 : Int32)), .val (.int (0 : Int32)), .unset] [(.int (1 : Int32))])
          refine go (fun _ => XS.goto X86.here hx rfl (pc0 := 87) (pc' := 91) rfl (hb hby at_87) (by decide) (by decide)) ?_
          show Ends p e below s _ _ _ T86 (mkF m 91 #[.val (.int i0), .val (.int i1), .val (.int i2), .val (.int (0 : Int32)), .val (.int z85_0), .val (.int (-1 : Int32)), .val (.int (0 : Int32)), .unset] [(.int (1 : Int32))])
          exact endN X86 hx hlk hret (by simp) (hb hby at_91) e86 ⟨rfl, N86a⟩ (by decide) (by decide)
      · rcases own_five z85_0 with c | rfl | rfl | rfl | c
        · rw [own_mvr (Or.inl c)]
          show Ends p e below s _ _ _ T86 (mkF m 35 #[.val (.int i0), .val (.int i1), .val (.int i2), .val (.int (1 : Int32)), .val (.int z85_0), .unset, .unset, .unset] [(.int (-1 : Int32))])
          refine go (fun _ => XS.istore X86.here hx rfl (hb hby at_35) rfl (l' := #[.val (.int i0), .val (.int i1), .val (.int i2), .val (.int (1 : Int32)), .val (.int z85_0), .val (.int (-1 : Int32)), .unset, .unset]) rfl) ?_
          show Ends p e below s _ _ _ T86 (mkF m 37 #[.val (.int i0), .val (.int i1), .val (.int i2), .val (.int (1 : Int32)), .val (.int z85_0), .val (.int (-1 : Int32)), .unset, .unset] [])
          refine go (fun _ => XS.iloadN X86.here hx rfl (hb hby at_37) rfl) ?_
          show Ends p e below s _ _ _ T86 (mkF m 38 #[.val (.int i0), .val (.int i1), .val (.int i2), .val (.int (1 : Int32)), .val (.int z85_0), .val (.int (-1 : Int32)), .unset, .unset] [(.int (1 : Int32))])
          refine go (fun _ => XT.iconstV X86.here hx rfl (-1 : Int32) (hb hby at_38) (by decide)) ?_
          show Ends p e below s _ _ _ T86 (mkF m 39 #[.val (.int i0), .val (.int i1), .val (.int i2), .val (.int (1 : Int32)), .val (.int z85_0), .val (.int (-1 : Int32)), .unset, .unset] [(.int (-1 : Int32)), (.int (1 : Int32))])
          refine go (fun _ => XS.icmpNo X86.here hx rfl (hb hby at_39) rfl (XT.ii_lt_f ((by decide) : ¬ ((1 : Int32) < (-1 : Int32))))) ?_
          show Ends p e below s _ _ _ T86 (mkF m 42 #[.val (.int i0), .val (.int i1), .val (.int i2), .val (.int (1 : Int32)), .val (.int z85_0), .val (.int (-1 : Int32)), .unset, .unset] [])
          refine go (fun _ => XS.iloadN X86.here hx rfl (hb hby at_42) rfl) ?_
          show Ends p e below s _ _ _ T86 (mkF m 43 #[.val (.int i0), .val (.int i1), .val (.int i2), .val (.int (1 : Int32)), .val (.int z85_0), .val (.int (-1 : Int32)), .unset, .unset] [(.int (1 : Int32))])
          refine go (fun _ => XT.iconstV X86.here hx rfl (1 : Int32) (hb hby at_43) (by decide)) ?_
          show Ends p e below s _ _ _ T86 (mkF m 44 #[.val (.int i0), .val (.int i1), .val (.int i2), .val (.int (1 : Int32)), .val (.int z85_0), .val (.int (-1 : Int32)), .unset, .unset] [(.int (1 : Int32)), (.int (1 : Int32))])
          refine go (fun _ => XS.icmpNo X86.here hx rfl (hb hby at_44) rfl (XT.ii_gt_f ((by decide) : ¬ ((1 : Int32) < (1 : Int32))))) ?_
          show Ends p e below s _ _ _ T86 (mkF m 47 #[.val (.int i0), .val (.int i1), .val (.int i2), .val (.int (1 : Int32)), .val (.int z85_0), .val (.int (-1 : Int32)), .unset, .unset] [])
          refine go (fun _ => XS.iload X86.here hx rfl (hb hby at_47) rfl) ?_
          show Ends p e below s _ _ _ T86 (mkF m 49 #[.val (.int i0), .val (.int i1), .val (.int i2), .val (.int (1 : Int32)), .val (.int z85_0), .val (.int (-1 : Int32)), .unset, .unset] [(.int z85_0)])
          refine go (fun _ => XT.iconstV X86.here hx rfl (-1 : Int32) (hb hby at_49) (by decide)) ?_
          show Ends p e below s _ _ _ T86 (mkF m 50 #[.val (.int i0), .val (.int i1), .val (.int i2), .val (.int (1 : Int32)), .val (.int z85_0), .val (.int (-1 : Int32)), .unset, .unset] [(.int (-1 : Int32)), (.int z85_0)])
          refine go (fun _ => XS.icmpYes X86.here hx rfl (pc0 := 50) (pc' := 72) rfl (hb hby at_50) rfl (XT.ii_lt_t c) (by decide) (by decide)) ?_
          show Ends p e below s _ _ _ T86 (mkF m 72 #[.val (.int i0), .val (.int i1), .val (.int i2), .val (.int (1 : Int32)), .val (.int z85_0), .val (.int (-1 : Int32)), .unset, .unset] [])
          refine go (fun _ => XT.iconstV X86.here hx rfl (0 : Int32) (hb hby at_72) (by decide)) ?_
          show Ends p e below s _ _ _ T86 (mkF m 73 #[.val (.int i0), .val (.int i1), .val (.int i2), .val (.int (1 : Int32)), .val (.int z85_0), .val (.int (-1 : Int32)), .unset, .unset] [(.int (0 : Int32))])
          refine go (fun _ => XS.istore X86.here hx rfl (hb hby at_73) rfl (l' := #[.val (.int i0), .val (.int i1), .val (.int i2), .val (.int (1 : Int32)), .val (.int z85_0), .val (.int (-1 : Int32)), .val (.int (0 : Int32)), .unset]) rfl) ?_
          show Ends p e below s _ _ _ T86 (mkF m 75 #[.val (.int i0), .val (.int i1), .val (.int i2), .val (.int (1 : Int32)), .val (.int z85_0), .val (.int (-1 : Int32)), .val (.int (0 : Int32)), .unset] [])
          refine go (fun _ => XS.iload X86.here hx rfl (hb hby at_75) rfl) ?_
          show Ends p e below s _ _ _ T86 (mkF m 77 #[.val (.int i0), .val (.int i1), .val (.int i2), .val (.int (1 : Int32)), .val (.int z85_0), .val (.int (-1 : Int32)), .val (.int (0 : Int32)), .unset] [(.int (0 : Int32))])
          refine go (fun _ => XS.ifNo X86.here hx rfl (hb hby at_77) rfl (XT.i0_ne_f ((by decide) : (0 : Int32) = (0 : Int32)))) ?_
          show Ends p e below s _ _ _ T86 (mkF m 80 #[.val (.int i0), .val (.int i1), .val (.int i2), .val (.int (1 : Int32)), .val (.int z85_0), .val (.int (-1 : Int32)), .val (.int (0 : Int32)), .unset] [])
          refine go (fun _ => XS.iload X86.here hx rfl (hb hby at_80) rfl) ?_
          show Ends p e below s _ _ _ T86 (mkF m 82 #[.val (.int i0), .val (.int i1), .val (.int i2), .val (.int (1 : Int32)), .val (.int z85_0), .val (.int (-1 : Int32)), .val (.int (0 : Int32)), .unset] [(.int (-1 : Int32))])
          refine go (fun _ => XT.iconstV X86.here hx rfl (-1 : Int32) (hb hby at_82) (by decide)) ?_
          show Ends p e below s _ _ _ T86 (mkF m 83 #[.val (.int i0), .val (.int i1), .val (.int i2), .val (.int (1 : Int32)), .val (.int z85_0), .val (.int (-1 : Int32)), .val (.int (0 : Int32)), .unset] [(.int (-1 : Int32)), (.int (-1 : Int32))])
          refine go (fun _ => XS.icmpNo X86.here hx rfl (hb hby at_83) rfl (XT.ii_ne_f ((by decide) : (-1 : Int32) = (-1 : Int32)))) ?_
          show Ends p e below s _ _ _ T86 (mkF m 86 #[.val (.int i0), .val (.int i1), .val (.int i2), .val (.int (1 : Int32)), .val (.int z85_0), .val (.int (-1 : Int32)), .val (.int (0 : Int32)), .unset] [])
          refine go (fun _ => XT.iconstV X86.here hx rfl (1 : Int32) (hb hby at_86) (by decide)) ?_
          show Ends p e below s _ _ _ T86 (mkF m 87 #[.val (.int i0), .val (.int i1), .val (.int i2), .val (.int (1 : Int32)), .val (.int z85_0), .val (.int (-1 : Int32)), .val (.int (0 : Int32)), .unset] [(.int (1 : Int32))])
          refine go (fun _ => XS.goto X86.here hx rfl (pc0 := 87) (pc' := 91) rfl (hb hby at_87) (by decide) (by decide)) ?_
          show Ends p e below s _ _ _ T86 (mkF m 91 #[.val (.int i0), .val (.int i1), .val (.int i2), .val (.int (1 : Int32)), .val (.int z85_0), .val (.int (-1 : Int32)), .val (.int (0 : Int32)), .unset] [(.int (1 : Int32))])
          exact endN X86 hx hlk hret (by simp) (hb hby at_91) e86 ⟨rfl, N86a⟩ (by decide) (by decide)
        · show Ends p e below s _ _ _ T86 (mkF m 35 #[.val (.int i0), .val (.int i1), .val (.int i2), .val (.int (1 : Int32)), .val (.int (-1 : Int32)), .unset, .unset, .unset] [(.int (7 : Int32))])
          refine go (fun _ => XS.istore X86.here hx rfl (hb hby at_35) rfl (l' := #[.val (.int i0), .val (.int i1), .val (.int i2), .val (.int (1 : Int32)), .val (.int (-1 : Int32)), .val (.int (7 : Int32)), .unset, .unset]) rfl) ?_
          show Ends p e below s _ _ _ T86 (mkF m 37 #[.val (.int i0), .val (.int i1), .val (.int i2), .val (.int (1 : Int32)), .val (.int (-1 : Int32)), .val (.int (7 : Int32)), .unset, .unset] [])
          refine go (fun _ => XS.iloadN X86.here hx rfl (hb hby at_37) rfl) ?_
          show Ends p e below s _ _ _ T86 (mkF m 38 #[.val (.int i0), .val (.int i1), .val (.int i2), .val (.int (1 : Int32)), .val (.int (-1 : Int32)), .val (.int (7 : Int32)), .unset, .unset] [(.int (1 : Int32))])
          refine go (fun _ => XT.iconstV X86.here hx rfl (-1 : Int32) (hb hby at_38) (by decide)) ?_
          show Ends p e below s _ _ _ T86 (mkF m 39 #[.val (.int i0), .val (.int i1), .val (.int i2), .val (.int (1 : Int32)), .val (.int (-1 : Int32)), .val (.int (7 : Int32)), .unset, .unset] [(.int (-1 : Int32)), (.int (1 : Int32))])
          refine go (fun _ => XS.icmpNo X86.here hx rfl (hb hby at_39) rfl (XT.ii_lt_f ((by decide) : ¬ ((1 : Int32) < (-1 : Int32))))) ?_
          show Ends p e below s _ _ _ T86 (mkF m 42 #[.val (.int i0), .val (.int i1), .val (.int i2), .val (.int (1 : Int32)), .val (.int (-1 : Int32)), .val (.int (7 : Int32)), .unset, .unset] [])
          refine go (fun _ => XS.iloadN X86.here hx rfl (hb hby at_42) rfl) ?_
          show Ends p e below s _ _ _ T86 (mkF m 43 #[.val (.int i0), .val (.int i1), .val (.int i2), .val (.int (1 : Int32)), .val (.int (-1 : Int32)), .val (.int (7 : Int32)), .unset, .unset] [(.int (1 : Int32))])
          refine go (fun _ => XT.iconstV X86.here hx rfl (1 : Int32) (hb hby at_43) (by decide)) ?_
          show Ends p e below s _ _ _ T86 (mkF m 44 #[.val (.int i0), .val (.int i1), .val (.int i2), .val (.int (1 : Int32)), .val (.int (-1 : Int32)), .val (.int (7 : Int32)), .unset, .unset] [(.int (1 : Int32)), (.int (1 : Int32))])
          refine go (fun _ => XS.icmpNo X86.here hx rfl (hb hby at_44) rfl (XT.ii_gt_f ((by decide) : ¬ ((1 : Int32) < (1 : Int32))))) ?_
          show Ends p e below s _ _ _ T86 (mkF m 47 #[.val (.int i0), .val (.int i1), .val (.int i2), .val (.int (1 : Int32)), .val (.int (-1 : Int32)), .val (.int (7 : Int32)), .unset, .unset] [])
          refine go (fun _ => XS.iload X86.here hx rfl (hb hby at_47) rfl) ?_
          show Ends p e below s _ _ _ T86 (mkF m 49 #[.val (.int i0), .val (.int i1), .val (.int i2), .val (.int (1 : Int32)), .val (.int (-1 : Int32)), .val (.int (7 : Int32)), .unset, .unset] [(.int (-1 : Int32))])
          refine go (fun _ => XT.iconstV X86.here hx rfl (-1 : Int32) (hb hby at_49) (by decide)) ?_
          show Ends p e below s _ _ _ T86 (mkF m 50 #[.val (.int i0), .val (.int i1), .val (.int i2), .val (.int (1 : Int32)), .val (.int (-1 : Int32)), .val (.int (7 : Int32)), .unset, .unset] [(.int (-1 : Int32)), (.int (-1 : Int32))])
          refine go (fun _ => XS.icmpNo X86.here hx rfl (hb hby at_50) rfl (XT.ii_lt_f ((by decide) : ¬ ((-1 : Int32) < (-1 : Int32))))) ?_
          show Ends p e below s _ _ _ T86 (mkF m 53 #[.val (.int i0), .val (.int i1), .val (.int i2), .val (.int (1 : Int32)), .val (.int (-1 : Int32)), .val (.int (7 : Int32)), .unset, .unset] [])
          refine go (fun _ => XS.iload X86.here hx rfl (hb hby at_53) rfl) ?_
          show Ends p e below s _ _ _ T86 (mkF m 55 #[.val (.int i0), .val (.int i1), .val (.int i2), .val (.int (1 : Int32)), .val (.int (-1 : Int32)), .val (.int (7 : Int32)), .unset, .unset] [(.int (-1 : Int32))])
          refine go (fun _ => XT.iconstV X86.here hx rfl (1 : Int32) (hb hby at_55) (by decide)) ?_
          show Ends p e below s _ _ _ T86 (mkF m 56 #[.val (.int i0), .val (.int i1), .val (.int i2), .val (.int (1 : Int32)), .val (.int (-1 : Int32)), .val (.int (7 : Int32)), .unset, .unset] [(.int (1 : Int32)), (.int (-1 : Int32))])
          refine go (fun _ => XS.icmpNo X86.here hx rfl (hb hby at_56) rfl (XT.ii_gt_f ((by decide) : ¬ ((1 : Int32) < (-1 : Int32))))) ?_
          show Ends p e below s _ _ _ T86 (mkF m 59 #[.val (.int i0), .val (.int i1), .val (.int i2), .val (.int (1 : Int32)), .val (.int (-1 : Int32)), .val (.int (7 : Int32)), .unset, .unset] [])
          refine go (fun _ => XS.iloadN X86.here hx rfl (hb hby at_59) rfl) ?_
          show Ends p e below s _ _ _ T86 (mkF m 60 #[.val (.int i0), .val (.int i1), .val (.int i2), .val (.int (1 : Int32)), .val (.int (-1 : Int32)), .val (.int (7 : Int32)), .unset, .unset] [(.int (1 : Int32))])
          refine go (fun _ => XS.ifYes X86.here hx rfl (pc0 := 60) (pc' := 68) rfl (hb hby at_60) rfl (XT.i0_ne_t ((by decide) : ¬ ((1 : Int32) = (0 : Int32)))) (by decide) (by decide)) ?_
          show Ends p e below s _ _ _ T86 (mkF m 68 #[.val (.int i0), .val (.int i1), .val (.int i2), .val (.int (1 : Int32)), .val (.int (-1 : Int32)), .val (.int (7 : Int32)), .unset, .unset] [])
          refine go (fun _ => XT.iconstV X86.here hx rfl (1 : Int32) (hb hby at_68) (by decide)) ?_
          show Ends p e below s _ _ _ T86 (mkF m 69 #[.val (.int i0), .val (.int i1), .val (.int i2), .val (.int (1 : Int32)), .val (.int (-1 : Int32)), .val (.int (7 : Int32)), .unset, .unset] [(.int (1 : Int32))])
          refine go (fun _ => XS.goto X86.here hx rfl (pc0 := 69) (pc' := 73) rfl (hb hby at_69) (by decide) (by decide)) ?_
          show Ends p e below s _ _ _ T86 (mkF m 73 #[.val (.int i0), .val (.int i1), .val (.int i2), .val (.int (1 : Int32)), .val (.int (-1 : Int32)), .val (.int (7 : Int32)), .unset, .unset] [(.int (1 : Int32))])
          refine go (fun _ => XS.istore X86.here hx rfl (hb hby at_73) rfl (l' := #[.val (.int i0), .val (.int i1), .val (.int i2), .val (.int (1 : Int32)), .val (.int (-1 : Int32)), .val (.int (7 : Int32)), .val (.int (1 : Int32)), .unset]) rfl) ?_
          show Ends p e below s _ _ _ T86 (mkF m 75 #[.val (.int i0), .val (.int i1), .val (.int i2), .val (.int (1 : Int32)), .val (.int (-1 : Int32)), .val (.int (7 : Int32)), .val (.int (1 : Int32)), .unset] [])
          refine go (fun _ => XS.iload X86.here hx rfl (hb hby at_75) rfl) ?_
          show Ends p e below s _ _ _ T86 (mkF m 77 #[.val (.int i0), .val (.int i1), .val (.int i2), .val (.int (1 : Int32)), .val (.int (-1 : Int32)), .val (.int (7 : Int32)), .val (.int (1 : Int32)), .unset] [(.int (1 : Int32))])
          refine go (fun _ => XS.ifYes X86.here hx rfl (pc0 := 77) (pc' := 92) rfl (hb hby at_77) rfl (XT.i0_ne_t ((by decide) : ¬ ((1 : Int32) = (0 : Int32)))) (by decide) (by decide)) ?_
          show Ends p e below s _ _ _ T86 (mkF m 92 #[.val (.int i0), .val (.int i1), .val (.int i2), .val (.int (1 : Int32)), .val (.int (-1 : Int32)), .val (.int (7 : Int32)), .val (.int (1 : Int32)), .unset] [])
          refine go (fun _ => XS.iload X86.here hx rfl (hb hby at_92) rfl) ?_
          show Ends p e below s _ _ _ T86 (mkF m 94 #[.val (.int i0), .val (.int i1), .val (.int i2), .val (.int (1 : Int32)), .val (.int (-1 : Int32)), .val (.int (7 : Int32)), .val (.int (1 : Int32)), .unset] [(.int (7 : Int32))])
          refine go (fun _ => XS.ifNo X86.here hx rfl (hb hby at_94) rfl (XT.i0_lt_f ((by decide) : ¬ ((7 : Int32) < (0 : Int32))))) ?_
          show Ends p e below s _ _ _ T86 (mkF m 97 #[.val (.int i0), .val (.int i1), .val (.int i2), .val (.int (1 : Int32)), .val (.int (-1 : Int32)), .val (.int (7 : Int32)), .val (.int (1 : Int32)), .unset] [])
          refine go (fun _ => XS.iload X86.here hx rfl (hb hby at_97) rfl) ?_
          show Ends p e below s _ _ _ T86 (mkF m 99 #[.val (.int i0), .val (.int i1), .val (.int i2), .val (.int (1 : Int32)), .val (.int (-1 : Int32)), .val (.int (7 : Int32)), .val (.int (1 : Int32)), .unset] [(.int (7 : Int32))])
          refine go (fun _ => XT.bipushV X86.here hx rfl (8 : Int32) (hb hby at_99) (by decide)) ?_
          show Ends p e below s _ _ _ T86 (mkF m 101 #[.val (.int i0), .val (.int i1), .val (.int i2), .val (.int (1 : Int32)), .val (.int (-1 : Int32)), .val (.int (7 : Int32)), .val (.int (1 : Int32)), .unset] [(.int (8 : Int32)), (.int (7 : Int32))])
          refine go (fun _ => XS.icmpYes X86.here hx rfl (pc0 := 101) (pc' := 106) rfl (hb hby at_101) rfl (XT.ii_lt_t ((by decide) : (7 : Int32) < (8 : Int32))) (by decide) (by decide)) ?_
          show Ends p e below s _ _ _ T86 (mkF m 106 #[.val (.int i0), .val (.int i1), .val (.int i2), .val (.int (1 : Int32)), .val (.int (-1 : Int32)), .val (.int (7 : Int32)), .val (.int (1 : Int32)), .unset] [])
          refine go (fun _ => XS.iloadN X86.here hx rfl (hb hby at_106) rfl) ?_
          show Ends p e below s _ _ _ T86 (mkF m 107 #[.val (.int i0), .val (.int i1), .val (.int i2), .val (.int (1 : Int32)), .val (.int (-1 : Int32)), .val (.int (7 : Int32)), .val (.int (1 : Int32)), .unset] [(.int (1 : Int32))])
          refine go (fun _ => XS.ifNo X86.here hx rfl (hb hby at_107) rfl (XT.i0_eq_f ((by decide) : ¬ ((1 : Int32) = (0 : Int32))))) ?_
          show Ends p e below s _ _ _ T86 (mkF m 110 #[.val (.int i0), .val (.int i1), .val (.int i2), .val (.int (1 : Int32)), .val (.int (-1 : Int32)), .val (.int (7 : Int32)), .val (.int (1 : Int32)), .unset] [])
          refine go (fun _ => XS.iload X86.here hx rfl (hb hby at_110) rfl) ?_
          show Ends p e below s _ _ _ T86 (mkF m 112 #[.val (.int i0), .val (.int i1), .val (.int i2), .val (.int (1 : Int32)), .val (.int (-1 : Int32)), .val (.int (7 : Int32)), .val (.int (1 : Int32)), .unset] [(.int (-1 : Int32))])
          refine go (fun _ => XS.ifNo X86.here hx rfl (hb hby at_112) rfl (XT.i0_eq_f ((by decide) : ¬ ((-1 : Int32) = (0 : Int32))))) ?_
          show Ends p e below s _ _ _ T86 (mkF m 115 #[.val (.int i0), .val (.int i1), .val (.int i2), .val (.int (1 : Int32)), .val (.int (-1 : Int32)), .val (.int (7 : Int32)), .val (.int (1 : Int32)), .unset] [])
          refine go (fun _ => XT.iconstV X86.here hx rfl (1 : Int32) (hb hby at_115) (by decide)) ?_
          show Ends p e below s _ _ _ T86 (mkF m 116 #[.val (.int i0), .val (.int i1), .val (.int i2), .val (.int (1 : Int32)), .val (.int (-1 : Int32)), .val (.int (7 : Int32)), .val (.int (1 : Int32)), .unset] [(.int (1 : Int32))])
          refine go (fun _ => XS.goto X86.here hx rfl (pc0 := 116) (pc' := 120) rfl (hb hby at_116) (by decide) (by decide)) ?_
          show Ends p e below s _ _ _ T86 (mkF m 120 #[.val (.int i0), .val (.int i1), .val (.int i2), .val (.int (1 : Int32)), .val (.int (-1 : Int32)), .val (.int (7 : Int32)), .val (.int (1 : Int32)), .unset] [(.int (1 : Int32))])
          refine go (fun _ => XS.istore X86.here hx rfl (hb hby at_120) rfl (l' := #[.val (.int i0), .val (.int i1), .val (.int i2), .val (.int (1 : Int32)), .val (.int (-1 : Int32)), .val (.int (7 : Int32)), .val (.int (1 : Int32)), .val (.int (1 : Int32))]) rfl) ?_
          show Ends p e below s _ _ _ T86 (mkF m 122 #[.val (.int i0), .val (.int i1), .val (.int i2), .val (.int (1 : Int32)), .val (.int (-1 : Int32)), .val (.int (7 : Int32)), .val (.int (1 : Int32)), .val (.int (1 : Int32))] [])
          obtain ⟨T117, X117, e117, s117⟩ := getS2 X86 hx hZ hown (host := "") (Or.inl (hw _ (List.mem_of_getElem? (i := 8) rfl))) Via.refl e86 (Sta.ext O0 SC) (g := (mkF m 122 #[.val (.int i0), .val (.int i1), .val (.int i2), .val (.int (1 : Int32)), .val (.int (-1 : Int32)), .val (.int (7 : Int32)), .val (.int (1 : Int32)), .val (.int (1 : Int32))] [])) rfl (hb hby at_122)
          refine go s117 ?_
          show Ends p e below s _ _ _ T117 (mkF m 125 #[.val (.int i0), .val (.int i1), .val (.int i2), .val (.int (1 : Int32)), .val (.int (-1 : Int32)), .val (.int (7 : Int32)), .val (.int (1 : Int32)), .val (.int (1 : Int32))] [(.ref aC)])
          refine go (fun _ => XS.iload X117.here hx rfl (hb hby at_125) rfl) ?_
          show Ends p e below s _ _ _ T117 (mkF m 127 #[.val (.int i0), .val (.int i1), .val (.int i2), .val (.int (1 : Int32)), .val (.int (-1 : Int32)), .val (.int (7 : Int32)), .val (.int (1 : Int32)), .val (.int (1 : Int32))] [(.int (7 : Int32)), (.ref aC)])
          have F118 := (Arv.ext VC O0)
          obtain ⟨c119, A119, -, S119, M119, H119, -⟩ := id F118
          have B119 := inb_of S119 (j := (7 : Int32)) (by decide)
          refine go (fun _ => X117.iaload hx (j := (7 : Int32)) (v := (.int (1 : Int32))) (by rw [e117]; exact A119.1) (State.isArrayOf_alike hZ.alike A119.2.1) A119.2.2 B119 (H119.at B119 rfl) (g := (mkF m 127 #[.val (.int i0), .val (.int i1), .val (.int i2), .val (.int (1 : Int32)), .val (.int (-1 : Int32)), .val (.int (7 : Int32)), .val (.int (1 : Int32)), .val (.int (1 : Int32))] [(.int (7 : Int32)), (.ref aC)])) rfl rfl (hb hby at_127) _) ?_
          show Ends p e below s _ _ _ T117 (mkF m 128 #[.val (.int i0), .val (.int i1), .val (.int i2), .val (.int (1 : Int32)), .val (.int (-1 : Int32)), .val (.int (7 : Int32)), .val (.int (1 : Int32)), .val (.int (1 : Int32))] [(.int (1 : Int32))])
          refine go (fun _ => XS.iloadN X117.here hx rfl (hb hby at_128) rfl) ?_
          show Ends p e below s _ _ _ T117 (mkF m 129 #[.val (.int i0), .val (.int i1), .val (.int i2), .val (.int (1 : Int32)), .val (.int (-1 : Int32)), .val (.int (7 : Int32)), .val (.int (1 : Int32)), .val (.int (1 : Int32))] [(.int (1 : Int32)), (.int (1 : Int32))])
          refine go (fun _ => XS.icmpNo X117.here hx rfl (hb hby at_129) rfl (XT.ii_ne_f ((by decide) : (1 : Int32) = (1 : Int32)))) ?_
          show Ends p e below s _ _ _ T117 (mkF m 132 #[.val (.int i0), .val (.int i1), .val (.int i2), .val (.int (1 : Int32)), .val (.int (-1 : Int32)), .val (.int (7 : Int32)), .val (.int (1 : Int32)), .val (.int (1 : Int32))] [])
          obtain ⟨T120, X120, e120, s120⟩ := getS2 X117 hx hZ hown (host := "") (Or.inl (hw _ (List.mem_of_getElem? (i := 9) rfl))) Via.refl e117 (Sta.ext O0 SR) (g := (mkF m 132 #[.val (.int i0), .val (.int i1), .val (.int i2), .val (.int (1 : Int32)), .val (.int (-1 : Int32)), .val (.int (7 : Int32)), .val (.int (1 : Int32)), .val (.int (1 : Int32))] [])) rfl (hb hby at_132)
          refine go s120 ?_
          show Ends p e below s _ _ _ T120 (mkF m 135 #[.val (.int i0), .val (.int i1), .val (.int i2), .val (.int (1 : Int32)), .val (.int (-1 : Int32)), .val (.int (7 : Int32)), .val (.int (1 : Int32)), .val (.int (1 : Int32))] [(.ref aR)])
          refine go (fun _ => XS.iload X120.here hx rfl (hb hby at_135) rfl) ?_
          show Ends p e below s _ _ _ T120 (mkF m 137 #[.val (.int i0), .val (.int i1), .val (.int i2), .val (.int (1 : Int32)), .val (.int (-1 : Int32)), .val (.int (7 : Int32)), .val (.int (1 : Int32)), .val (.int (1 : Int32))] [(.int (7 : Int32)), (.ref aR)])
          have F121 := (Arv.ext VR O0)
          obtain ⟨c122, A122, -, S122, M122, H122, -⟩ := id F121
          have B122 := inb_of S122 (j := (7 : Int32)) (by decide)
          refine go (fun _ => X120.iaload hx (j := (7 : Int32)) (v := (.int (-1 : Int32))) (by rw [e120]; exact A122.1) (State.isArrayOf_alike hZ.alike A122.2.1) A122.2.2 B122 (H122.at B122 rfl) (g := (mkF m 137 #[.val (.int i0), .val (.int i1), .val (.int i2), .val (.int (1 : Int32)), .val (.int (-1 : Int32)), .val (.int (7 : Int32)), .val (.int (1 : Int32)), .val (.int (1 : Int32))] [(.int (7 : Int32)), (.ref aR)])) rfl rfl (hb hby at_137) _) ?_
          show Ends p e below s _ _ _ T120 (mkF m 138 #[.val (.int i0), .val (.int i1), .val (.int i2), .val (.int (1 : Int32)), .val (.int (-1 : Int32)), .val (.int (7 : Int32)), .val (.int (1 : Int32)), .val (.int (1 : Int32))] [(.int (-1 : Int32))])
          refine go (fun _ => XS.iload X120.here hx rfl (hb hby at_138) rfl) ?_
          show Ends p e below s _ _ _ T120 (mkF m 140 #[.val (.int i0), .val (.int i1), .val (.int i2), .val (.int (1 : Int32)), .val (.int (-1 : Int32)), .val (.int (7 : Int32)), .val (.int (1 : Int32)), .val (.int (1 : Int32))] [(.int (-1 : Int32)), (.int (-1 : Int32))])
          refine go (fun _ => XS.icmpNo X120.here hx rfl (hb hby at_140) rfl (XT.ii_ne_f ((by decide) : (-1 : Int32) = (-1 : Int32)))) ?_
          show Ends p e below s _ _ _ T120 (mkF m 143 #[.val (.int i0), .val (.int i1), .val (.int i2), .val (.int (1 : Int32)), .val (.int (-1 : Int32)), .val (.int (7 : Int32)), .val (.int (1 : Int32)), .val (.int (1 : Int32))] [])
          refine go (fun _ => XS.iload X120.here hx rfl (hb hby at_143) rfl) ?_
          show Ends p e below s _ _ _ T120 (mkF m 145 #[.val (.int i0), .val (.int i1), .val (.int i2), .val (.int (1 : Int32)), .val (.int (-1 : Int32)), .val (.int (7 : Int32)), .val (.int (1 : Int32)), .val (.int (1 : Int32))] [(.int (7 : Int32))])
          refine go (fun _ => XT.iconstV X120.here hx rfl (4 : Int32) (hb hby at_145) (by decide)) ?_
          show Ends p e below s _ _ _ T120 (mkF m 146 #[.val (.int i0), .val (.int i1), .val (.int i2), .val (.int (1 : Int32)), .val (.int (-1 : Int32)), .val (.int (7 : Int32)), .val (.int (1 : Int32)), .val (.int (1 : Int32))] [(.int (4 : Int32)), (.int (7 : Int32))])
          refine go (fun _ => XS.icmpNo X120.here hx rfl (hb hby at_146) rfl (XT.ii_lt_f ((by decide) : ¬ ((7 : Int32) < (4 : Int32))))) ?_
          show Ends p e below s _ _ _ T120 (mkF m 149 #[.val (.int i0), .val (.int i1), .val (.int i2), .val (.int (1 : Int32)), .val (.int (-1 : Int32)), .val (.int (7 : Int32)), .val (.int (1 : Int32)), .val (.int (1 : Int32))] [])
          refine go (fun _ => XT.iconstV X120.here hx rfl (1 : Int32) (hb hby at_149) (by decide)) ?_
          show Ends p e below s _ _ _ T120 (mkF m 150 #[.val (.int i0), .val (.int i1), .val (.int i2), .val (.int (1 : Int32)), .val (.int (-1 : Int32)), .val (.int (7 : Int32)), .val (.int (1 : Int32)), .val (.int (1 : Int32))] [(.int (1 : Int32))])
          refine go (fun _ => XS.goto X120.here hx rfl (pc0 := 150) (pc' := 154) rfl (hb hby at_150) (by decide) (by decide)) ?_
          show Ends p e below s _ _ _ T120 (mkF m 154 #[.val (.int i0), .val (.int i1), .val (.int i2), .val (.int (1 : Int32)), .val (.int (-1 : Int32)), .val (.int (7 : Int32)), .val (.int (1 : Int32)), .val (.int (1 : Int32))] [(.int (1 : Int32))])
          refine go (fun _ => XS.iload X120.here hx rfl (hb hby at_154) rfl) ?_
          show Ends p e below s _ _ _ T120 (mkF m 156 #[.val (.int i0), .val (.int i1), .val (.int i2), .val (.int (1 : Int32)), .val (.int (-1 : Int32)), .val (.int (7 : Int32)), .val (.int (1 : Int32)), .val (.int (1 : Int32))] [(.int (1 : Int32)), (.int (1 : Int32))])
          refine go (fun _ => XS.icmpNo X120.here hx rfl (hb hby at_156) rfl (XT.ii_ne_f ((by decide) : (1 : Int32) = (1 : Int32)))) ?_
          show Ends p e below s _ _ _ T120 (mkF m 159 #[.val (.int i0), .val (.int i1), .val (.int i2), .val (.int (1 : Int32)), .val (.int (-1 : Int32)), .val (.int (7 : Int32)), .val (.int (1 : Int32)), .val (.int (1 : Int32))] [])
          refine go (fun _ => XT.iconstV X120.here hx rfl (1 : Int32) (hb hby at_159) (by decide)) ?_
          show Ends p e below s _ _ _ T120 (mkF m 160 #[.val (.int i0), .val (.int i1), .val (.int i2), .val (.int (1 : Int32)), .val (.int (-1 : Int32)), .val (.int (7 : Int32)), .val (.int (1 : Int32)), .val (.int (1 : Int32))] [(.int (1 : Int32))])
          refine go (fun _ => XS.goto X120.here hx rfl (pc0 := 160) (pc' := 164) rfl (hb hby at_160) (by decide) (by decide)) ?_
          show Ends p e below s _ _ _ T120 (mkF m 164 #[.val (.int i0), .val (.int i1), .val (.int i2), .val (.int (1 : Int32)), .val (.int (-1 : Int32)), .val (.int (7 : Int32)), .val (.int (1 : Int32)), .val (.int (1 : Int32))] [(.int (1 : Int32))])
          exact endN X120 hx hlk hret (by simp) (hb hby at_164) e120 ⟨rfl, N86a⟩ (by decide) (by decide)
        · show Ends p e below s _ _ _ T86 (mkF m 35 #[.val (.int i0), .val (.int i1), .val (.int i2), .val (.int (1 : Int32)), .val (.int (0 : Int32)), .unset, .unset, .unset] [(.int (0 : Int32))])
          refine go (fun _ => XS.istore X86.here hx rfl (hb hby at_35) rfl (l' := #[.val (.int i0), .val (.int i1), .val (.int i2), .val (.int (1 : Int32)), .val (.int (0 : Int32)), .val (.int (0 : Int32)), .unset, .unset]) rfl) ?_
          show Ends p e below s _ _ _ T86 (mkF m 37 #[.val (.int i0), .val (.int i1), .val (.int i2), .val (.int (1 : Int32)), .val (.int (0 : Int32)), .val (.int (0 : Int32)), .unset, .unset] [])
          refine go (fun _ => XS.iloadN X86.here hx rfl (hb hby at_37) rfl) ?_
          show Ends p e below s _ _ _ T86 (mkF m 38 #[.val (.int i0), .val (.int i1), .val (.int i2), .val (.int (1 : Int32)), .val (.int (0 : Int32)), .val (.int (0 : Int32)), .unset, .unset] [(.int (1 : Int32))])
          refine go (fun _ => XT.iconstV X86.here hx rfl (-1 : Int32) (hb hby at_38) (by decide)) ?_
          show Ends p e below s _ _ _ T86 (mkF m 39 #[.val (.int i0), .val (.int i1), .val (.int i2), .val (.int (1 : Int32)), .val (.int (0 : Int32)), .val (.int (0 : Int32)), .unset, .unset] [(.int (-1 : Int32)), (.int (1 : Int32))])
          refine go (fun _ => XS.icmpNo X86.here hx rfl (hb hby at_39) rfl (XT.ii_lt_f ((by decide) : ¬ ((1 : Int32) < (-1 : Int32))))) ?_
          show Ends p e below s _ _ _ T86 (mkF m 42 #[.val (.int i0), .val (.int i1), .val (.int i2), .val (.int (1 : Int32)), .val (.int (0 : Int32)), .val (.int (0 : Int32)), .unset, .unset] [])
          refine go (fun _ => XS.iloadN X86.here hx rfl (hb hby at_42) rfl) ?_
          show Ends p e below s _ _ _ T86 (mkF m 43 #[.val (.int i0), .val (.int i1), .val (.int i2), .val (.int (1 : Int32)), .val (.int (0 : Int32)), .val (.int (0 : Int32)), .unset, .unset] [(.int (1 : Int32))])
          refine go (fun _ => XT.iconstV X86.here hx rfl (1 : Int32) (hb hby at_43) (by decide)) ?_
          show Ends p e below s _ _ _ T86 (mkF m 44 #[.val (.int i0), .val (.int i1), .val (.int i2), .val (.int (1 : Int32)), .val (.int (0 : Int32)), .val (.int (0 : Int32)), .unset, .unset] [(.int (1 : Int32)), (.int (1 : Int32))])
          refine go (fun _ => XS.icmpNo X86.here hx rfl (hb hby at_44) rfl (XT.ii_gt_f ((by decide) : ¬ ((1 : Int32) < (1 : Int32))))) ?_
          show Ends p e below s _ _ _ T86 (mkF m 47 #[.val (.int i0), .val (.int i1), .val (.int i2), .val (.int (1 : Int32)), .val (.int (0 : Int32)), .val (.int (0 : Int32)), .unset, .unset] [])
          refine go (fun _ => XS.iload X86.here hx rfl (hb hby at_47) rfl) ?_
          show Ends p e below s _ _ _ T86 (mkF m 49 #[.val (.int i0), .val (.int i1), .val (.int i2), .val (.int (1 : Int32)), .val (.int (0 : Int32)), .val (.int (0 : Int32)), .unset, .unset] [(.int (0 : Int32))])
          refine go (fun _ => XT.iconstV X86.here hx rfl (-1 : Int32) (hb hby at_49) (by decide)) ?_
          show Ends p e below s _ _ _ T86 (mkF m 50 #[.val (.int i0), .val (.int i1), .val (.int i2), .val (.int (1 : Int32)), .val (.int (0 : Int32)), .val (.int (0 : Int32)), .unset, .unset] [(.int (-1 : Int32)), (.int (0 : Int32))])
          refine go (fun _ => XS.icmpNo X86.here hx rfl (hb hby at_50) rfl (XT.ii_lt_f ((by decide) : ¬ ((0 : Int32) < (-1 : Int32))))) ?_
          show Ends p e below s _ _ _ T86 (mkF m 53 #[.val (.int i0), .val (.int i1), .val (.int i2), .val (.int (1 : Int32)), .val (.int (0 : Int32)), .val (.int (0 : Int32)), .unset, .unset] [])
          refine go (fun _ => XS.iload X86.here hx rfl (hb hby at_53) rfl) ?_
          show Ends p e below s _ _ _ T86 (mkF m 55 #[.val (.int i0), .val (.int i1), .val (.int i2), .val (.int (1 : Int32)), .val (.int (0 : Int32)), .val (.int (0 : Int32)), .unset, .unset] [(.int (0 : Int32))])
          refine go (fun _ => XT.iconstV X86.here hx rfl (1 : Int32) (hb hby at_55) (by decide)) ?_
          show Ends p e below s _ _ _ T86 (mkF m 56 #[.val (.int i0), .val (.int i1), .val (.int i2), .val (.int (1 : Int32)), .val (.int (0 : Int32)), .val (.int (0 : Int32)), .unset, .unset] [(.int (1 : Int32)), (.int (0 : Int32))])
          refine go (fun _ => XS.icmpNo X86.here hx rfl (hb hby at_56) rfl (XT.ii_gt_f ((by decide) : ¬ ((1 : Int32) < (0 : Int32))))) ?_
          show Ends p e below s _ _ _ T86 (mkF m 59 #[.val (.int i0), .val (.int i1), .val (.int i2), .val (.int (1 : Int32)), .val (.int (0 : Int32)), .val (.int (0 : Int32)), .unset, .unset] [])
          refine go (fun _ => XS.iloadN X86.here hx rfl (hb hby at_59) rfl) ?_
          show Ends p e below s _ _ _ T86 (mkF m 60 #[.val (.int i0), .val (.int i1), .val (.int i2), .val (.int (1 : Int32)), .val (.int (0 : Int32)), .val (.int (0 : Int32)), .unset, .unset] [(.int (1 : Int32))])
          refine go (fun _ => XS.ifYes X86.here hx rfl (pc0 := 60) (pc' := 68) rfl (hb hby at_60) rfl (XT.i0_ne_t ((by decide) : ¬ ((1 : Int32) = (0 : Int32)))) (by decide) (by decide)) ?_
          show Ends p e below s _ _ _ T86 (mkF m 68 #[.val (.int i0), .val (.int i1), .val (.int i2), .val (.int (1 : Int32)), .val (.int (0 : Int32)), .val (.int (0 : Int32)), .unset, .unset] [])
          refine go (fun _ => XT.iconstV X86.here hx rfl (1 : Int32) (hb hby at_68) (by decide)) ?_
          show Ends p e below s _ _ _ T86 (mkF m 69 #[.val (.int i0), .val (.int i1), .val (.int i2), .val (.int (1 : Int32)), .val (.int (0 : Int32)), .val (.int (0 : Int32)), .unset, .unset] [(.int (1 : Int32))])
          refine go (fun _ => XS.goto X86.here hx rfl (pc0 := 69) (pc' := 73) rfl (hb hby at_69) (by decide) (by decide)) ?_
          show Ends p e below s _ _ _ T86 (mkF m 73 #[.val (.int i0), .val (.int i1), .val (.int i2), .val (.int (1 : Int32)), .val (.int (0 : Int32)), .val (.int (0 : Int32)), .unset, .unset] [(.int (1 : Int32))])
          refine go (fun _ => XS.istore X86.here hx rfl (hb hby at_73) rfl (l' := #[.val (.int i0), .val (.int i1), .val (.int i2), .val (.int (1 : Int32)), .val (.int (0 : Int32)), .val (.int (0 : Int32)), .val (.int (1 : Int32)), .unset]) rfl) ?_
          show Ends p e below s _ _ _ T86 (mkF m 75 #[.val (.int i0), .val (.int i1), .val (.int i2), .val (.int (1 : Int32)), .val (.int (0 : Int32)), .val (.int (0 : Int32)), .val (.int (1 : Int32)), .unset] [])
          refine go (fun _ => XS.iload X86.here hx rfl (hb hby at_75) rfl) ?_
          show Ends p e below s _ _ _ T86 (mkF m 77 #[.val (.int i0), .val (.int i1), .val (.int i2), .val (.int (1 : Int32)), .val (.int (0 : Int32)), .val (.int (0 : Int32)), .val (.int (1 : Int32)), .unset] [(.int (1 : Int32))])
          refine go (fun _ => XS.ifYes X86.here hx rfl (pc0 := 77) (pc' := 92) rfl (hb hby at_77) rfl (XT.i0_ne_t ((by decide) : ¬ ((1 : Int32) = (0 : Int32)))) (by decide) (by decide)) ?_
          show Ends p e below s _ _ _ T86 (mkF m 92 #[.val (.int i0), .val (.int i1), .val (.int i2), .val (.int (1 : Int32)), .val (.int (0 : Int32)), .val (.int (0 : Int32)), .val (.int (1 : Int32)), .unset] [])
          refine go (fun _ => XS.iload X86.here hx rfl (hb hby at_92) rfl) ?_
          show Ends p e below s _ _ _ T86 (mkF m 94 #[.val (.int i0), .val (.int i1), .val (.int i2), .val (.int (1 : Int32)), .val (.int (0 : Int32)), .val (.int (0 : Int32)), .val (.int (1 : Int32)), .unset] [(.int (0 : Int32))])
          refine go (fun _ => XS.ifNo X86.here hx rfl (hb hby at_94) rfl (XT.i0_lt_f ((by decide) : ¬ ((0 : Int32) < (0 : Int32))))) ?_
          show Ends p e below s _ _ _ T86 (mkF m 97 #[.val (.int i0), .val (.int i1), .val (.int i2), .val (.int (1 : Int32)), .val (.int (0 : Int32)), .val (.int (0 : Int32)), .val (.int (1 : Int32)), .unset] [])
          refine go (fun _ => XS.iload X86.here hx rfl (hb hby at_97) rfl) ?_
          show Ends p e below s _ _ _ T86 (mkF m 99 #[.val (.int i0), .val (.int i1), .val (.int i2), .val (.int (1 : Int32)), .val (.int (0 : Int32)), .val (.int (0 : Int32)), .val (.int (1 : Int32)), .unset] [(.int (0 : Int32))])
          refine go (fun _ => XT.bipushV X86.here hx rfl (8 : Int32) (hb hby at_99) (by decide)) ?_
          show Ends p e below s _ _ _ T86 (mkF m 101 #[.val (.int i0), .val (.int i1), .val (.int i2), .val (.int (1 : Int32)), .val (.int (0 : Int32)), .val (.int (0 : Int32)), .val (.int (1 : Int32)), .unset] [(.int (8 : Int32)), (.int (0 : Int32))])
          refine go (fun _ => XS.icmpYes X86.here hx rfl (pc0 := 101) (pc' := 106) rfl (hb hby at_101) rfl (XT.ii_lt_t ((by decide) : (0 : Int32) < (8 : Int32))) (by decide) (by decide)) ?_
          show Ends p e below s _ _ _ T86 (mkF m 106 #[.val (.int i0), .val (.int i1), .val (.int i2), .val (.int (1 : Int32)), .val (.int (0 : Int32)), .val (.int (0 : Int32)), .val (.int (1 : Int32)), .unset] [])
          refine go (fun _ => XS.iloadN X86.here hx rfl (hb hby at_106) rfl) ?_
          show Ends p e below s _ _ _ T86 (mkF m 107 #[.val (.int i0), .val (.int i1), .val (.int i2), .val (.int (1 : Int32)), .val (.int (0 : Int32)), .val (.int (0 : Int32)), .val (.int (1 : Int32)), .unset] [(.int (1 : Int32))])
          refine go (fun _ => XS.ifNo X86.here hx rfl (hb hby at_107) rfl (XT.i0_eq_f ((by decide) : ¬ ((1 : Int32) = (0 : Int32))))) ?_
          show Ends p e below s _ _ _ T86 (mkF m 110 #[.val (.int i0), .val (.int i1), .val (.int i2), .val (.int (1 : Int32)), .val (.int (0 : Int32)), .val (.int (0 : Int32)), .val (.int (1 : Int32)), .unset] [])
          refine go (fun _ => XS.iload X86.here hx rfl (hb hby at_110) rfl) ?_
          show Ends p e below s _ _ _ T86 (mkF m 112 #[.val (.int i0), .val (.int i1), .val (.int i2), .val (.int (1 : Int32)), .val (.int (0 : Int32)), .val (.int (0 : Int32)), .val (.int (1 : Int32)), .unset] [(.int (0 : Int32))])
          refine go (fun _ => XS.ifYes X86.here hx rfl (pc0 := 112) (pc' := 119) rfl (hb hby at_112) rfl (XT.i0_eq_t ((by decide) : (0 : Int32) = (0 : Int32))) (by decide) (by decide)) ?_
          show Ends p e below s _ _ _ T86 (mkF m 119 #[.val (.int i0), .val (.int i1), .val (.int i2), .val (.int (1 : Int32)), .val (.int (0 : Int32)), .val (.int (0 : Int32)), .val (.int (1 : Int32)), .unset] [])
          refine go (fun _ => XT.iconstV X86.here hx rfl (0 : Int32) (hb hby at_119) (by decide)) ?_
          show Ends p e below s _ _ _ T86 (mkF m 120 #[.val (.int i0), .val (.int i1), .val (.int i2), .val (.int (1 : Int32)), .val (.int (0 : Int32)), .val (.int (0 : Int32)), .val (.int (1 : Int32)), .unset] [(.int (0 : Int32))])
          refine go (fun _ => XS.istore X86.here hx rfl (hb hby at_120) rfl (l' := #[.val (.int i0), .val (.int i1), .val (.int i2), .val (.int (1 : Int32)), .val (.int (0 : Int32)), .val (.int (0 : Int32)), .val (.int (1 : Int32)), .val (.int (0 : Int32))]) rfl) ?_
          show Ends p e below s _ _ _ T86 (mkF m 122 #[.val (.int i0), .val (.int i1), .val (.int i2), .val (.int (1 : Int32)), .val (.int (0 : Int32)), .val (.int (0 : Int32)), .val (.int (1 : Int32)), .val (.int (0 : Int32))] [])
          obtain ⟨T123, X123, e123, s123⟩ := getS2 X86 hx hZ hown (host := "") (Or.inl (hw _ (List.mem_of_getElem? (i := 8) rfl))) Via.refl e86 (Sta.ext O0 SC) (g := (mkF m 122 #[.val (.int i0), .val (.int i1), .val (.int i2), .val (.int (1 : Int32)), .val (.int (0 : Int32)), .val (.int (0 : Int32)), .val (.int (1 : Int32)), .val (.int (0 : Int32))] [])) rfl (hb hby at_122)
          refine go s123 ?_
          show Ends p e below s _ _ _ T123 (mkF m 125 #[.val (.int i0), .val (.int i1), .val (.int i2), .val (.int (1 : Int32)), .val (.int (0 : Int32)), .val (.int (0 : Int32)), .val (.int (1 : Int32)), .val (.int (0 : Int32))] [(.ref aC)])
          refine go (fun _ => XS.iload X123.here hx rfl (hb hby at_125) rfl) ?_
          show Ends p e below s _ _ _ T123 (mkF m 127 #[.val (.int i0), .val (.int i1), .val (.int i2), .val (.int (1 : Int32)), .val (.int (0 : Int32)), .val (.int (0 : Int32)), .val (.int (1 : Int32)), .val (.int (0 : Int32))] [(.int (0 : Int32)), (.ref aC)])
          have F124 := (Arv.ext VC O0)
          obtain ⟨c125, A125, -, S125, M125, H125, -⟩ := id F124
          have B125 := inb_of S125 (j := (0 : Int32)) (by decide)
          refine go (fun _ => X123.iaload hx (j := (0 : Int32)) (v := (.int (1 : Int32))) (by rw [e123]; exact A125.1) (State.isArrayOf_alike hZ.alike A125.2.1) A125.2.2 B125 (H125.at B125 rfl) (g := (mkF m 127 #[.val (.int i0), .val (.int i1), .val (.int i2), .val (.int (1 : Int32)), .val (.int (0 : Int32)), .val (.int (0 : Int32)), .val (.int (1 : Int32)), .val (.int (0 : Int32))] [(.int (0 : Int32)), (.ref aC)])) rfl rfl (hb hby at_127) _) ?_
          show Ends p e below s _ _ _ T123 (mkF m 128 #[.val (.int i0), .val (.int i1), .val (.int i2), .val (.int (1 : Int32)), .val (.int (0 : Int32)), .val (.int (0 : Int32)), .val (.int (1 : Int32)), .val (.int (0 : Int32))] [(.int (1 : Int32))])
          refine go (fun _ => XS.iloadN X123.here hx rfl (hb hby at_128) rfl) ?_
          show Ends p e below s _ _ _ T123 (mkF m 129 #[.val (.int i0), .val (.int i1), .val (.int i2), .val (.int (1 : Int32)), .val (.int (0 : Int32)), .val (.int (0 : Int32)), .val (.int (1 : Int32)), .val (.int (0 : Int32))] [(.int (1 : Int32)), (.int (1 : Int32))])
          refine go (fun _ => XS.icmpNo X123.here hx rfl (hb hby at_129) rfl (XT.ii_ne_f ((by decide) : (1 : Int32) = (1 : Int32)))) ?_
          show Ends p e below s _ _ _ T123 (mkF m 132 #[.val (.int i0), .val (.int i1), .val (.int i2), .val (.int (1 : Int32)), .val (.int (0 : Int32)), .val (.int (0 : Int32)), .val (.int (1 : Int32)), .val (.int (0 : Int32))] [])
          obtain ⟨T126, X126, e126, s126⟩ := getS2 X123 hx hZ hown (host := "") (Or.inl (hw _ (List.mem_of_getElem? (i := 9) rfl))) Via.refl e123 (Sta.ext O0 SR) (g := (mkF m 132 #[.val (.int i0), .val (.int i1), .val (.int i2), .val (.int (1 : Int32)), .val (.int (0 : Int32)), .val (.int (0 : Int32)), .val (.int (1 : Int32)), .val (.int (0 : Int32))] [])) rfl (hb hby at_132)
          refine go s126 ?_
          show Ends p e below s _ _ _ T126 (mkF m 135 #[.val (.int i0), .val (.int i1), .val (.int i2), .val (.int (1 : Int32)), .val (.int (0 : Int32)), .val (.int (0 : Int32)), .val (.int (1 : Int32)), .val (.int (0 : Int32))] [(.ref aR)])
          refine go (fun _ => XS.iload X126.here hx rfl (hb hby at_135) rfl) ?_
          show Ends p e below s _ _ _ T126 (mkF m 137 #[.val (.int i0), .val (.int i1), .val (.int i2), .val (.int (1 : Int32)), .val (.int (0 : Int32)), .val (.int (0 : Int32)), .val (.int (1 : Int32)), .val (.int (0 : Int32))] [(.int (0 : Int32)), (.ref aR)])
          have F127 := (Arv.ext VR O0)
          obtain ⟨c128, A128, -, S128, M128, H128, -⟩ := id F127
          have B128 := inb_of S128 (j := (0 : Int32)) (by decide)
          refine go (fun _ => X126.iaload hx (j := (0 : Int32)) (v := (.int (0 : Int32))) (by rw [e126]; exact A128.1) (State.isArrayOf_alike hZ.alike A128.2.1) A128.2.2 B128 (H128.at B128 rfl) (g := (mkF m 137 #[.val (.int i0), .val (.int i1), .val (.int i2), .val (.int (1 : Int32)), .val (.int (0 : Int32)), .val (.int (0 : Int32)), .val (.int (1 : Int32)), .val (.int (0 : Int32))] [(.int (0 : Int32)), (.ref aR)])) rfl rfl (hb hby at_137) _) ?_
          show Ends p e below s _ _ _ T126 (mkF m 138 #[.val (.int i0), .val (.int i1), .val (.int i2), .val (.int (1 : Int32)), .val (.int (0 : Int32)), .val (.int (0 : Int32)), .val (.int (1 : Int32)), .val (.int (0 : Int32))] [(.int (0 : Int32))])
          refine go (fun _ => XS.iload X126.here hx rfl (hb hby at_138) rfl) ?_
          show Ends p e below s _ _ _ T126 (mkF m 140 #[.val (.int i0), .val (.int i1), .val (.int i2), .val (.int (1 : Int32)), .val (.int (0 : Int32)), .val (.int (0 : Int32)), .val (.int (1 : Int32)), .val (.int (0 : Int32))] [(.int (0 : Int32)), (.int (0 : Int32))])
          refine go (fun _ => XS.icmpNo X126.here hx rfl (hb hby at_140) rfl (XT.ii_ne_f ((by decide) : (0 : Int32) = (0 : Int32)))) ?_
          show Ends p e below s _ _ _ T126 (mkF m 143 #[.val (.int i0), .val (.int i1), .val (.int i2), .val (.int (1 : Int32)), .val (.int (0 : Int32)), .val (.int (0 : Int32)), .val (.int (1 : Int32)), .val (.int (0 : Int32))] [])
          refine go (fun _ => XS.iload X126.here hx rfl (hb hby at_143) rfl) ?_
          show Ends p e below s _ _ _ T126 (mkF m 145 #[.val (.int i0), .val (.int i1), .val (.int i2), .val (.int (1 : Int32)), .val (.int (0 : Int32)), .val (.int (0 : Int32)), .val (.int (1 : Int32)), .val (.int (0 : Int32))] [(.int (0 : Int32))])
          refine go (fun _ => XT.iconstV X126.here hx rfl (4 : Int32) (hb hby at_145) (by decide)) ?_
          show Ends p e below s _ _ _ T126 (mkF m 146 #[.val (.int i0), .val (.int i1), .val (.int i2), .val (.int (1 : Int32)), .val (.int (0 : Int32)), .val (.int (0 : Int32)), .val (.int (1 : Int32)), .val (.int (0 : Int32))] [(.int (4 : Int32)), (.int (0 : Int32))])
          refine go (fun _ => XS.icmpYes X126.here hx rfl (pc0 := 146) (pc' := 153) rfl (hb hby at_146) rfl (XT.ii_lt_t ((by decide) : (0 : Int32) < (4 : Int32))) (by decide) (by decide)) ?_
          show Ends p e below s _ _ _ T126 (mkF m 153 #[.val (.int i0), .val (.int i1), .val (.int i2), .val (.int (1 : Int32)), .val (.int (0 : Int32)), .val (.int (0 : Int32)), .val (.int (1 : Int32)), .val (.int (0 : Int32))] [])
          refine go (fun _ => XT.iconstV X126.here hx rfl (0 : Int32) (hb hby at_153) (by decide)) ?_
          show Ends p e below s _ _ _ T126 (mkF m 154 #[.val (.int i0), .val (.int i1), .val (.int i2), .val (.int (1 : Int32)), .val (.int (0 : Int32)), .val (.int (0 : Int32)), .val (.int (1 : Int32)), .val (.int (0 : Int32))] [(.int (0 : Int32))])
          refine go (fun _ => XS.iload X126.here hx rfl (hb hby at_154) rfl) ?_
          show Ends p e below s _ _ _ T126 (mkF m 156 #[.val (.int i0), .val (.int i1), .val (.int i2), .val (.int (1 : Int32)), .val (.int (0 : Int32)), .val (.int (0 : Int32)), .val (.int (1 : Int32)), .val (.int (0 : Int32))] [(.int (0 : Int32)), (.int (0 : Int32))])
          refine go (fun _ => XS.icmpNo X126.here hx rfl (hb hby at_156) rfl (XT.ii_ne_f ((by decide) : (0 : Int32) = (0 : Int32)))) ?_
          show Ends p e below s _ _ _ T126 (mkF m 159 #[.val (.int i0), .val (.int i1), .val (.int i2), .val (.int (1 : Int32)), .val (.int (0 : Int32)), .val (.int (0 : Int32)), .val (.int (1 : Int32)), .val (.int (0 : Int32))] [])
          refine go (fun _ => XT.iconstV X126.here hx rfl (1 : Int32) (hb hby at_159) (by decide)) ?_
          show Ends p e below s _ _ _ T126 (mkF m 160 #[.val (.int i0), .val (.int i1), .val (.int i2), .val (.int (1 : Int32)), .val (.int (0 : Int32)), .val (.int (0 : Int32)), .val (.int (1 : Int32)), .val (.int (0 : Int32))] [(.int (1 : Int32))])
          refine go (fun _ => XS.goto X126.here hx rfl (pc0 := 160) (pc' := 164) rfl (hb hby at_160) (by decide) (by decide)) ?_
          show Ends p e below s _ _ _ T126 (mkF m 164 #[.val (.int i0), .val (.int i1), .val (.int i2), .val (.int (1 : Int32)), .val (.int (0 : Int32)), .val (.int (0 : Int32)), .val (.int (1 : Int32)), .val (.int (0 : Int32))] [(.int (1 : Int32))])
          exact endN X126 hx hlk hret (by simp) (hb hby at_164) e126 ⟨rfl, N86a⟩ (by decide) (by decide)
        · show Ends p e below s _ _ _ T86 (mkF m 35 #[.val (.int i0), .val (.int i1), .val (.int i2), .val (.int (1 : Int32)), .val (.int (1 : Int32)), .unset, .unset, .unset] [(.int (4 : Int32))])
          refine go (fun _ => XS.istore X86.here hx rfl (hb hby at_35) rfl (l' := #[.val (.int i0), .val (.int i1), .val (.int i2), .val (.int (1 : Int32)), .val (.int (1 : Int32)), .val (.int (4 : Int32)), .unset, .unset]) rfl) ?_
          show Ends p e below s _ _ _ T86 (mkF m 37 #[.val (.int i0), .val (.int i1), .val (.int i2), .val (.int (1 : Int32)), .val (.int (1 : Int32)), .val (.int (4 : Int32)), .unset, .unset] [])
          refine go (fun _ => XS.iloadN X86.here hx rfl (hb hby at_37) rfl) ?_
          show Ends p e below s _ _ _ T86 (mkF m 38 #[.val (.int i0), .val (.int i1), .val (.int i2), .val (.int (1 : Int32)), .val (.int (1 : Int32)), .val (.int (4 : Int32)), .unset, .unset] [(.int (1 : Int32))])
          refine go (fun _ => XT.iconstV X86.here hx rfl (-1 : Int32) (hb hby at_38) (by decide)) ?_
          show Ends p e below s _ _ _ T86 (mkF m 39 #[.val (.int i0), .val (.int i1), .val (.int i2), .val (.int (1 : Int32)), .val (.int (1 : Int32)), .val (.int (4 : Int32)), .unset, .unset] [(.int (-1 : Int32)), (.int (1 : Int32))])
          refine go (fun _ => XS.icmpNo X86.here hx rfl (hb hby at_39) rfl (XT.ii_lt_f ((by decide) : ¬ ((1 : Int32) < (-1 : Int32))))) ?_
          show Ends p e below s _ _ _ T86 (mkF m 42 #[.val (.int i0), .val (.int i1), .val (.int i2), .val (.int (1 : Int32)), .val (.int (1 : Int32)), .val (.int (4 : Int32)), .unset, .unset] [])
          refine go (fun _ => XS.iloadN X86.here hx rfl (hb hby at_42) rfl) ?_
          show Ends p e below s _ _ _ T86 (mkF m 43 #[.val (.int i0), .val (.int i1), .val (.int i2), .val (.int (1 : Int32)), .val (.int (1 : Int32)), .val (.int (4 : Int32)), .unset, .unset] [(.int (1 : Int32))])
          refine go (fun _ => XT.iconstV X86.here hx rfl (1 : Int32) (hb hby at_43) (by decide)) ?_
          show Ends p e below s _ _ _ T86 (mkF m 44 #[.val (.int i0), .val (.int i1), .val (.int i2), .val (.int (1 : Int32)), .val (.int (1 : Int32)), .val (.int (4 : Int32)), .unset, .unset] [(.int (1 : Int32)), (.int (1 : Int32))])
          refine go (fun _ => XS.icmpNo X86.here hx rfl (hb hby at_44) rfl (XT.ii_gt_f ((by decide) : ¬ ((1 : Int32) < (1 : Int32))))) ?_
          show Ends p e below s _ _ _ T86 (mkF m 47 #[.val (.int i0), .val (.int i1), .val (.int i2), .val (.int (1 : Int32)), .val (.int (1 : Int32)), .val (.int (4 : Int32)), .unset, .unset] [])
          refine go (fun _ => XS.iload X86.here hx rfl (hb hby at_47) rfl) ?_
          show Ends p e below s _ _ _ T86 (mkF m 49 #[.val (.int i0), .val (.int i1), .val (.int i2), .val (.int (1 : Int32)), .val (.int (1 : Int32)), .val (.int (4 : Int32)), .unset, .unset] [(.int (1 : Int32))])
          refine go (fun _ => XT.iconstV X86.here hx rfl (-1 : Int32) (hb hby at_49) (by decide)) ?_
          show Ends p e below s _ _ _ T86 (mkF m 50 #[.val (.int i0), .val (.int i1), .val (.int i2), .val (.int (1 : Int32)), .val (.int (1 : Int32)), .val (.int (4 : Int32)), .unset, .unset] [(.int (-1 : Int32)), (.int (1 : Int32))])
          refine go (fun _ => XS.icmpNo X86.here hx rfl (hb hby at_50) rfl (XT.ii_lt_f ((by decide) : ¬ ((1 : Int32) < (-1 : Int32))))) ?_
          show Ends p e below s _ _ _ T86 (mkF m 53 #[.val (.int i0), .val (.int i1), .val (.int i2), .val (.int (1 : Int32)), .val (.int (1 : Int32)), .val (.int (4 : Int32)), .unset, .unset] [])
          refine go (fun _ => XS.iload X86.here hx rfl (hb hby at_53) rfl) ?_
          show Ends p e below s _ _ _ T86 (mkF m 55 #[.val (.int i0), .val (.int i1), .val (.int i2), .val (.int (1 : Int32)), .val (.int (1 : Int32)), .val (.int (4 : Int32)), .unset, .unset] [(.int (1 : Int32))])
          refine go (fun _ => XT.iconstV X86.here hx rfl (1 : Int32) (hb hby at_55) (by decide)) ?_
          show Ends p e below s _ _ _ T86 (mkF m 56 #[.val (.int i0), .val (.int i1), .val (.int i2), .val (.int (1 : Int32)), .val (.int (1 : Int32)), .val (.int (4 : Int32)), .unset, .unset] [(.int (1 : Int32)), (.int (1 : Int32))])
          refine go (fun _ => XS.icmpNo X86.here hx rfl (hb hby at_56) rfl (XT.ii_gt_f ((by decide) : ¬ ((1 : Int32) < (1 : Int32))))) ?_
          show Ends p e below s _ _ _ T86 (mkF m 59 #[.val (.int i0), .val (.int i1), .val (.int i2), .val (.int (1 : Int32)), .val (.int (1 : Int32)), .val (.int (4 : Int32)), .unset, .unset] [])
          refine go (fun _ => XS.iloadN X86.here hx rfl (hb hby at_59) rfl) ?_
          show Ends p e below s _ _ _ T86 (mkF m 60 #[.val (.int i0), .val (.int i1), .val (.int i2), .val (.int (1 : Int32)), .val (.int (1 : Int32)), .val (.int (4 : Int32)), .unset, .unset] [(.int (1 : Int32))])
          refine go (fun _ => XS.ifYes X86.here hx rfl (pc0 := 60) (pc' := 68) rfl (hb hby at_60) rfl (XT.i0_ne_t ((by decide) : ¬ ((1 : Int32) = (0 : Int32)))) (by decide) (by decide)) ?_
          show Ends p e below s _ _ _ T86 (mkF m 68 #[.val (.int i0), .val (.int i1), .val (.int i2), .val (.int (1 : Int32)), .val (.int (1 : Int32)), .val (.int (4 : Int32)), .unset, .unset] [])
          refine go (fun _ => XT.iconstV X86.here hx rfl (1 : Int32) (hb hby at_68) (by decide)) ?_
          show Ends p e below s _ _ _ T86 (mkF m 69 #[.val (.int i0), .val (.int i1), .val (.int i2), .val (.int (1 : Int32)), .val (.int (1 : Int32)), .val (.int (4 : Int32)), .unset, .unset] [(.int (1 : Int32))])
          refine go (fun _ => XS.goto X86.here hx rfl (pc0 := 69) (pc' := 73) rfl (hb hby at_69) (by decide) (by decide)) ?_
          show Ends p e below s _ _ _ T86 (mkF m 73 #[.val (.int i0), .val (.int i1), .val (.int i2), .val (.int (1 : Int32)), .val (.int (1 : Int32)), .val (.int (4 : Int32)), .unset, .unset] [(.int (1 : Int32))])
          refine go (fun _ => XS.istore X86.here hx rfl (hb hby at_73) rfl (l' := #[.val (.int i0), .val (.int i1), .val (.int i2), .val (.int (1 : Int32)), .val (.int (1 : Int32)), .val (.int (4 : Int32)), .val (.int (1 : Int32)), .unset]) rfl) ?_
          show Ends p e below s _ _ _ T86 (mkF m 75 #[.val (.int i0), .val (.int i1), .val (.int i2), .val (.int (1 : Int32)), .val (.int (1 : Int32)), .val (.int (4 : Int32)), .val (.int (1 : Int32)), .unset] [])
          refine go (fun _ => XS.iload X86.here hx rfl (hb hby at_75) rfl) ?_
          show Ends p e below s _ _ _ T86 (mkF m 77 #[.val (.int i0), .val (.int i1), .val (.int i2), .val (.int (1 : Int32)), .val (.int (1 : Int32)), .val (.int (4 : Int32)), .val (.int (1 : Int32)), .unset] [(.int (1 : Int32))])
          refine go (fun _ => XS.ifYes X86.here hx rfl (pc0 := 77) (pc' := 92) rfl (hb hby at_77) rfl (XT.i0_ne_t ((by decide) : ¬ ((1 : Int32) = (0 : Int32)))) (by decide) (by decide)) ?_
          show Ends p e below s _ _ _ T86 (mkF m 92 #[.val (.int i0), .val (.int i1), .val (.int i2), .val (.int (1 : Int32)), .val (.int (1 : Int32)), .val (.int (4 : Int32)), .val (.int (1 : Int32)), .unset] [])
          refine go (fun _ => XS.iload X86.here hx rfl (hb hby at_92) rfl) ?_
          show Ends p e below s _ _ _ T86 (mkF m 94 #[.val (.int i0), .val (.int i1), .val (.int i2), .val (.int (1 : Int32)), .val (.int (1 : Int32)), .val (.int (4 : Int32)), .val (.int (1 : Int32)), .unset] [(.int (4 : Int32))])
          refine go (fun _ => XS.ifNo X86.here hx rfl (hb hby at_94) rfl (XT.i0_lt_f ((by decide) : ¬ ((4 : Int32) < (0 : Int32))))) ?_
          show Ends p e below s _ _ _ T86 (mkF m 97 #[.val (.int i0), .val (.int i1), .val (.int i2), .val (.int (1 : Int32)), .val (.int (1 : Int32)), .val (.int (4 : Int32)), .val (.int (1 : Int32)), .unset] [])
          refine go (fun _ => XS.iload X86.here hx rfl (hb hby at_97) rfl) ?_
          show Ends p e below s _ _ _ T86 (mkF m 99 #[.val (.int i0), .val (.int i1), .val (.int i2), .val (.int (1 : Int32)), .val (.int (1 : Int32)), .val (.int (4 : Int32)), .val (.int (1 : Int32)), .unset] [(.int (4 : Int32))])
          refine go (fun _ => XT.bipushV X86.here hx rfl (8 : Int32) (hb hby at_99) (by decide)) ?_
          show Ends p e below s _ _ _ T86 (mkF m 101 #[.val (.int i0), .val (.int i1), .val (.int i2), .val (.int (1 : Int32)), .val (.int (1 : Int32)), .val (.int (4 : Int32)), .val (.int (1 : Int32)), .unset] [(.int (8 : Int32)), (.int (4 : Int32))])
          refine go (fun _ => XS.icmpYes X86.here hx rfl (pc0 := 101) (pc' := 106) rfl (hb hby at_101) rfl (XT.ii_lt_t ((by decide) : (4 : Int32) < (8 : Int32))) (by decide) (by decide)) ?_
          show Ends p e below s _ _ _ T86 (mkF m 106 #[.val (.int i0), .val (.int i1), .val (.int i2), .val (.int (1 : Int32)), .val (.int (1 : Int32)), .val (.int (4 : Int32)), .val (.int (1 : Int32)), .unset] [])
          refine go (fun _ => XS.iloadN X86.here hx rfl (hb hby at_106) rfl) ?_
          show Ends p e below s _ _ _ T86 (mkF m 107 #[.val (.int i0), .val (.int i1), .val (.int i2), .val (.int (1 : Int32)), .val (.int (1 : Int32)), .val (.int (4 : Int32)), .val (.int (1 : Int32)), .unset] [(.int (1 : Int32))])
          refine go (fun _ => XS.ifNo X86.here hx rfl (hb hby at_107) rfl (XT.i0_eq_f ((by decide) : ¬ ((1 : Int32) = (0 : Int32))))) ?_
          show Ends p e below s _ _ _ T86 (mkF m 110 #[.val (.int i0), .val (.int i1), .val (.int i2), .val (.int (1 : Int32)), .val (.int (1 : Int32)), .val (.int (4 : Int32)), .val (.int (1 : Int32)), .unset] [])
          refine go (fun _ => XS.iload X86.here hx rfl (hb hby at_110) rfl) ?_
          show Ends p e below s _ _ _ T86 (mkF m 112 #[.val (.int i0), .val (.int i1), .val (.int i2), .val (.int (1 : Int32)), .val (.int (1 : Int32)), .val (.int (4 : Int32)), .val (.int (1 : Int32)), .unset] [(.int (1 : Int32))])
          refine go (fun _ => XS.ifNo X86.here hx rfl (hb hby at_112) rfl (XT.i0_eq_f ((by decide) : ¬ ((1 : Int32) = (0 : Int32))))) ?_
          show Ends p e below s _ _ _ T86 (mkF m 115 #[.val (.int i0), .val (.int i1), .val (.int i2), .val (.int (1 : Int32)), .val (.int (1 : Int32)), .val (.int (4 : Int32)), .val (.int (1 : Int32)), .unset] [])
          refine go (fun _ => XT.iconstV X86.here hx rfl (1 : Int32) (hb hby at_115) (by decide)) ?_
          show Ends p e below s _ _ _ T86 (mkF m 116 #[.val (.int i0), .val (.int i1), .val (.int i2), .val (.int (1 : Int32)), .val (.int (1 : Int32)), .val (.int (4 : Int32)), .val (.int (1 : Int32)), .unset] [(.int (1 : Int32))])
          refine go (fun _ => XS.goto X86.here hx rfl (pc0 := 116) (pc' := 120) rfl (hb hby at_116) (by decide) (by decide)) ?_
          show Ends p e below s _ _ _ T86 (mkF m 120 #[.val (.int i0), .val (.int i1), .val (.int i2), .val (.int (1 : Int32)), .val (.int (1 : Int32)), .val (.int (4 : Int32)), .val (.int (1 : Int32)), .unset] [(.int (1 : Int32))])
          refine go (fun _ => XS.istore X86.here hx rfl (hb hby at_120) rfl (l' := #[.val (.int i0), .val (.int i1), .val (.int i2), .val (.int (1 : Int32)), .val (.int (1 : Int32)), .val (.int (4 : Int32)), .val (.int (1 : Int32)), .val (.int (1 : Int32))]) rfl) ?_
          show Ends p e below s _ _ _ T86 (mkF m 122 #[.val (.int i0), .val (.int i1), .val (.int i2), .val (.int (1 : Int32)), .val (.int (1 : Int32)), .val (.int (4 : Int32)), .val (.int (1 : Int32)), .val (.int (1 : Int32))] [])
          obtain ⟨T129, X129, e129, s129⟩ := getS2 X86 hx hZ hown (host := "") (Or.inl (hw _ (List.mem_of_getElem? (i := 8) rfl))) Via.refl e86 (Sta.ext O0 SC) (g := (mkF m 122 #[.val (.int i0), .val (.int i1), .val (.int i2), .val (.int (1 : Int32)), .val (.int (1 : Int32)), .val (.int (4 : Int32)), .val (.int (1 : Int32)), .val (.int (1 : Int32))] [])) rfl (hb hby at_122)
          refine go s129 ?_
          show Ends p e below s _ _ _ T129 (mkF m 125 #[.val (.int i0), .val (.int i1), .val (.int i2), .val (.int (1 : Int32)), .val (.int (1 : Int32)), .val (.int (4 : Int32)), .val (.int (1 : Int32)), .val (.int (1 : Int32))] [(.ref aC)])
          refine go (fun _ => XS.iload X129.here hx rfl (hb hby at_125) rfl) ?_
          show Ends p e below s _ _ _ T129 (mkF m 127 #[.val (.int i0), .val (.int i1), .val (.int i2), .val (.int (1 : Int32)), .val (.int (1 : Int32)), .val (.int (4 : Int32)), .val (.int (1 : Int32)), .val (.int (1 : Int32))] [(.int (4 : Int32)), (.ref aC)])
          have F130 := (Arv.ext VC O0)
          obtain ⟨c131, A131, -, S131, M131, H131, -⟩ := id F130
          have B131 := inb_of S131 (j := (4 : Int32)) (by decide)
          refine go (fun _ => X129.iaload hx (j := (4 : Int32)) (v := (.int (1 : Int32))) (by rw [e129]; exact A131.1) (State.isArrayOf_alike hZ.alike A131.2.1) A131.2.2 B131 (H131.at B131 rfl) (g := (mkF m 127 #[.val (.int i0), .val (.int i1), .val (.int i2), .val (.int (1 : Int32)), .val (.int (1 : Int32)), .val (.int (4 : Int32)), .val (.int (1 : Int32)), .val (.int (1 : Int32))] [(.int (4 : Int32)), (.ref aC)])) rfl rfl (hb hby at_127) _) ?_
          show Ends p e below s _ _ _ T129 (mkF m 128 #[.val (.int i0), .val (.int i1), .val (.int i2), .val (.int (1 : Int32)), .val (.int (1 : Int32)), .val (.int (4 : Int32)), .val (.int (1 : Int32)), .val (.int (1 : Int32))] [(.int (1 : Int32))])
          refine go (fun _ => XS.iloadN X129.here hx rfl (hb hby at_128) rfl) ?_
          show Ends p e below s _ _ _ T129 (mkF m 129 #[.val (.int i0), .val (.int i1), .val (.int i2), .val (.int (1 : Int32)), .val (.int (1 : Int32)), .val (.int (4 : Int32)), .val (.int (1 : Int32)), .val (.int (1 : Int32))] [(.int (1 : Int32)), (.int (1 : Int32))])
          refine go (fun _ => XS.icmpNo X129.here hx rfl (hb hby at_129) rfl (XT.ii_ne_f ((by decide) : (1 : Int32) = (1 : Int32)))) ?_
          show Ends p e below s _ _ _ T129 (mkF m 132 #[.val (.int i0), .val (.int i1), .val (.int i2), .val (.int (1 : Int32)), .val (.int (1 : Int32)), .val (.int (4 : Int32)), .val (.int (1 : Int32)), .val (.int (1 : Int32))] [])
          obtain ⟨T132, X132, e132, s132⟩ := getS2 X129 hx hZ hown (host := "") (Or.inl (hw _ (List.mem_of_getElem? (i := 9) rfl))) Via.refl e129 (Sta.ext O0 SR) (g := (mkF m 132 #[.val (.int i0), .val (.int i1), .val (.int i2), .val (.int (1 : Int32)), .val (.int (1 : Int32)), .val (.int (4 : Int32)), .val (.int (1 : Int32)), .val (.int (1 : Int32))] [])) rfl (hb hby at_132)
          refine go s132 ?_
          show Ends p e below s _ _ _ T132 (mkF m 135 #[.val (.int i0), .val (.int i1), .val (.int i2), .val (.int (1 : Int32)), .val (.int (1 : Int32)), .val (.int (4 : Int32)), .val (.int (1 : Int32)), .val (.int (1 : Int32))] [(.ref aR)])
          refine go (fun _ => XS.iload X132.here hx rfl (hb hby at_135) rfl) ?_
          show Ends p e below s _ _ _ T132 (mkF m 137 #[.val (.int i0), .val (.int i1), .val (.int i2), .val (.int (1 : Int32)), .val (.int (1 : Int32)), .val (.int (4 : Int32)), .val (.int (1 : Int32)), .val (.int (1 : Int32))] [(.int (4 : Int32)), (.ref aR)])
          have F133 := (Arv.ext VR O0)
          obtain ⟨c134, A134, -, S134, M134, H134, -⟩ := id F133
          have B134 := inb_of S134 (j := (4 : Int32)) (by decide)
          refine go (fun _ => X132.iaload hx (j := (4 : Int32)) (v := (.int (1 : Int32))) (by rw [e132]; exact A134.1) (State.isArrayOf_alike hZ.alike A134.2.1) A134.2.2 B134 (H134.at B134 rfl) (g := (mkF m 137 #[.val (.int i0), .val (.int i1), .val (.int i2), .val (.int (1 : Int32)), .val (.int (1 : Int32)), .val (.int (4 : Int32)), .val (.int (1 : Int32)), .val (.int (1 : Int32))] [(.int (4 : Int32)), (.ref aR)])) rfl rfl (hb hby at_137) _) ?_
          show Ends p e below s _ _ _ T132 (mkF m 138 #[.val (.int i0), .val (.int i1), .val (.int i2), .val (.int (1 : Int32)), .val (.int (1 : Int32)), .val (.int (4 : Int32)), .val (.int (1 : Int32)), .val (.int (1 : Int32))] [(.int (1 : Int32))])
          refine go (fun _ => XS.iload X132.here hx rfl (hb hby at_138) rfl) ?_
          show Ends p e below s _ _ _ T132 (mkF m 140 #[.val (.int i0), .val (.int i1), .val (.int i2), .val (.int (1 : Int32)), .val (.int (1 : Int32)), .val (.int (4 : Int32)), .val (.int (1 : Int32)), .val (.int (1 : Int32))] [(.int (1 : Int32)), (.int (1 : Int32))])
          refine go (fun _ => XS.icmpNo X132.here hx rfl (hb hby at_140) rfl (XT.ii_ne_f ((by decide) : (1 : Int32) = (1 : Int32)))) ?_
          show Ends p e below s _ _ _ T132 (mkF m 143 #[.val (.int i0), .val (.int i1), .val (.int i2), .val (.int (1 : Int32)), .val (.int (1 : Int32)), .val (.int (4 : Int32)), .val (.int (1 : Int32)), .val (.int (1 : Int32))] [])
          refine go (fun _ => XS.iload X132.here hx rfl (hb hby at_143) rfl) ?_
          show Ends p e below s _ _ _ T132 (mkF m 145 #[.val (.int i0), .val (.int i1), .val (.int i2), .val (.int (1 : Int32)), .val (.int (1 : Int32)), .val (.int (4 : Int32)), .val (.int (1 : Int32)), .val (.int (1 : Int32))] [(.int (4 : Int32))])
          refine go (fun _ => XT.iconstV X132.here hx rfl (4 : Int32) (hb hby at_145) (by decide)) ?_
          show Ends p e below s _ _ _ T132 (mkF m 146 #[.val (.int i0), .val (.int i1), .val (.int i2), .val (.int (1 : Int32)), .val (.int (1 : Int32)), .val (.int (4 : Int32)), .val (.int (1 : Int32)), .val (.int (1 : Int32))] [(.int (4 : Int32)), (.int (4 : Int32))])
          refine go (fun _ => XS.icmpNo X132.here hx rfl (hb hby at_146) rfl (XT.ii_lt_f ((by decide) : ¬ ((4 : Int32) < (4 : Int32))))) ?_
          show Ends p e below s _ _ _ T132 (mkF m 149 #[.val (.int i0), .val (.int i1), .val (.int i2), .val (.int (1 : Int32)), .val (.int (1 : Int32)), .val (.int (4 : Int32)), .val (.int (1 : Int32)), .val (.int (1 : Int32))] [])
          refine go (fun _ => XT.iconstV X132.here hx rfl (1 : Int32) (hb hby at_149) (by decide)) ?_
          show Ends p e below s _ _ _ T132 (mkF m 150 #[.val (.int i0), .val (.int i1), .val (.int i2), .val (.int (1 : Int32)), .val (.int (1 : Int32)), .val (.int (4 : Int32)), .val (.int (1 : Int32)), .val (.int (1 : Int32))] [(.int (1 : Int32))])
          refine go (fun _ => XS.goto X132.here hx rfl (pc0 := 150) (pc' := 154) rfl (hb hby at_150) (by decide) (by decide)) ?_
          show Ends p e below s _ _ _ T132 (mkF m 154 #[.val (.int i0), .val (.int i1), .val (.int i2), .val (.int (1 : Int32)), .val (.int (1 : Int32)), .val (.int (4 : Int32)), .val (.int (1 : Int32)), .val (.int (1 : Int32))] [(.int (1 : Int32))])
          refine go (fun _ => XS.iload X132.here hx rfl (hb hby at_154) rfl) ?_
          show Ends p e below s _ _ _ T132 (mkF m 156 #[.val (.int i0), .val (.int i1), .val (.int i2), .val (.int (1 : Int32)), .val (.int (1 : Int32)), .val (.int (4 : Int32)), .val (.int (1 : Int32)), .val (.int (1 : Int32))] [(.int (1 : Int32)), (.int (1 : Int32))])
          refine go (fun _ => XS.icmpNo X132.here hx rfl (hb hby at_156) rfl (XT.ii_ne_f ((by decide) : (1 : Int32) = (1 : Int32)))) ?_
          show Ends p e below s _ _ _ T132 (mkF m 159 #[.val (.int i0), .val (.int i1), .val (.int i2), .val (.int (1 : Int32)), .val (.int (1 : Int32)), .val (.int (4 : Int32)), .val (.int (1 : Int32)), .val (.int (1 : Int32))] [])
          refine go (fun _ => XT.iconstV X132.here hx rfl (1 : Int32) (hb hby at_159) (by decide)) ?_
          show Ends p e below s _ _ _ T132 (mkF m 160 #[.val (.int i0), .val (.int i1), .val (.int i2), .val (.int (1 : Int32)), .val (.int (1 : Int32)), .val (.int (4 : Int32)), .val (.int (1 : Int32)), .val (.int (1 : Int32))] [(.int (1 : Int32))])
          refine go (fun _ => XS.goto X132.here hx rfl (pc0 := 160) (pc' := 164) rfl (hb hby at_160) (by decide) (by decide)) ?_
          show Ends p e below s _ _ _ T132 (mkF m 164 #[.val (.int i0), .val (.int i1), .val (.int i2), .val (.int (1 : Int32)), .val (.int (1 : Int32)), .val (.int (4 : Int32)), .val (.int (1 : Int32)), .val (.int (1 : Int32))] [(.int (1 : Int32))])
          exact endN X132 hx hlk hret (by simp) (hb hby at_164) e132 ⟨rfl, N86a⟩ (by decide) (by decide)
        · rw [own_mvr (Or.inr c.2)]
          show Ends p e below s _ _ _ T86 (mkF m 35 #[.val (.int i0), .val (.int i1), .val (.int i2), .val (.int (1 : Int32)), .val (.int z85_0), .unset, .unset, .unset] [(.int (-1 : Int32))])
          refine go (fun _ => XS.istore X86.here hx rfl (hb hby at_35) rfl (l' := #[.val (.int i0), .val (.int i1), .val (.int i2), .val (.int (1 : Int32)), .val (.int z85_0), .val (.int (-1 : Int32)), .unset, .unset]) rfl) ?_
          show Ends p e below s _ _ _ T86 (mkF m 37 #[.val (.int i0), .val (.int i1), .val (.int i2), .val (.int (1 : Int32)), .val (.int z85_0), .val (.int (-1 : Int32)), .unset, .unset] [])
          refine go (fun _ => XS.iloadN X86.here hx rfl (hb hby at_37) rfl) ?_
          show Ends p e below s _ _ _ T86 (mkF m 38 #[.val (.int i0), .val (.int i1), .val (.int i2), .val (.int (1 : Int32)), .val (.int z85_0), .val (.int (-1 : Int32)), .unset, .unset] [(.int (1 : Int32))])
          refine go (fun _ => XT.iconstV X86.here hx rfl (-1 : Int32) (hb hby at_38) (by decide)) ?_
          show Ends p e below s _ _ _ T86 (mkF m 39 #[.val (.int i0), .val (.int i1), .val (.int i2), .val (.int (1 : Int32)), .val (.int z85_0), .val (.int (-1 : Int32)), .unset, .unset] [(.int (-1 : Int32)), (.int (1 : Int32))])
          refine go (fun _ => XS.icmpNo X86.here hx rfl (hb hby at_39) rfl (XT.ii_lt_f ((by decide) : ¬ ((1 : Int32) < (-1 : Int32))))) ?_
          show Ends p e below s _ _ _ T86 (mkF m 42 #[.val (.int i0), .val (.int i1), .val (.int i2), .val (.int (1 : Int32)), .val (.int z85_0), .val (.int (-1 : Int32)), .unset, .unset] [])
          refine go (fun _ => XS.iloadN X86.here hx rfl (hb hby at_42) rfl) ?_
          show Ends p e below s _ _ _ T86 (mkF m 43 #[.val (.int i0), .val (.int i1), .val (.int i2), .val (.int (1 : Int32)), .val (.int z85_0), .val (.int (-1 : Int32)), .unset, .unset] [(.int (1 : Int32))])
          refine go (fun _ => XT.iconstV X86.here hx rfl (1 : Int32) (hb hby at_43) (by decide)) ?_
          show Ends p e below s _ _ _ T86 (mkF m 44 #[.val (.int i0), .val (.int i1), .val (.int i2), .val (.int (1 : Int32)), .val (.int z85_0), .val (.int (-1 : Int32)), .unset, .unset] [(.int (1 : Int32)), (.int (1 : Int32))])
          refine go (fun _ => XS.icmpNo X86.here hx rfl (hb hby at_44) rfl (XT.ii_gt_f ((by decide) : ¬ ((1 : Int32) < (1 : Int32))))) ?_
          show Ends p e below s _ _ _ T86 (mkF m 47 #[.val (.int i0), .val (.int i1), .val (.int i2), .val (.int (1 : Int32)), .val (.int z85_0), .val (.int (-1 : Int32)), .unset, .unset] [])
          refine go (fun _ => XS.iload X86.here hx rfl (hb hby at_47) rfl) ?_
          show Ends p e below s _ _ _ T86 (mkF m 49 #[.val (.int i0), .val (.int i1), .val (.int i2), .val (.int (1 : Int32)), .val (.int z85_0), .val (.int (-1 : Int32)), .unset, .unset] [(.int z85_0)])
          refine go (fun _ => XT.iconstV X86.here hx rfl (-1 : Int32) (hb hby at_49) (by decide)) ?_
          show Ends p e below s _ _ _ T86 (mkF m 50 #[.val (.int i0), .val (.int i1), .val (.int i2), .val (.int (1 : Int32)), .val (.int z85_0), .val (.int (-1 : Int32)), .unset, .unset] [(.int (-1 : Int32)), (.int z85_0)])
          refine go (fun _ => XS.icmpNo X86.here hx rfl (hb hby at_50) rfl (XT.ii_lt_f c.1)) ?_
          show Ends p e below s _ _ _ T86 (mkF m 53 #[.val (.int i0), .val (.int i1), .val (.int i2), .val (.int (1 : Int32)), .val (.int z85_0), .val (.int (-1 : Int32)), .unset, .unset] [])
          refine go (fun _ => XS.iload X86.here hx rfl (hb hby at_53) rfl) ?_
          show Ends p e below s _ _ _ T86 (mkF m 55 #[.val (.int i0), .val (.int i1), .val (.int i2), .val (.int (1 : Int32)), .val (.int z85_0), .val (.int (-1 : Int32)), .unset, .unset] [(.int z85_0)])
          refine go (fun _ => XT.iconstV X86.here hx rfl (1 : Int32) (hb hby at_55) (by decide)) ?_
          show Ends p e below s _ _ _ T86 (mkF m 56 #[.val (.int i0), .val (.int i1), .val (.int i2), .val (.int (1 : Int32)), .val (.int z85_0), .val (.int (-1 : Int32)), .unset, .unset] [(.int (1 : Int32)), (.int z85_0)])
          refine go (fun _ => XS.icmpYes X86.here hx rfl (pc0 := 56) (pc' := 72) rfl (hb hby at_56) rfl (XT.ii_gt_t c.2) (by decide) (by decide)) ?_
          show Ends p e below s _ _ _ T86 (mkF m 72 #[.val (.int i0), .val (.int i1), .val (.int i2), .val (.int (1 : Int32)), .val (.int z85_0), .val (.int (-1 : Int32)), .unset, .unset] [])
          refine go (fun _ => XT.iconstV X86.here hx rfl (0 : Int32) (hb hby at_72) (by decide)) ?_
          show Ends p e below s _ _ _ T86 (mkF m 73 #[.val (.int i0), .val (.int i1), .val (.int i2), .val (.int (1 : Int32)), .val (.int z85_0), .val (.int (-1 : Int32)), .unset, .unset] [(.int (0 : Int32))])
          refine go (fun _ => XS.istore X86.here hx rfl (hb hby at_73) rfl (l' := #[.val (.int i0), .val (.int i1), .val (.int i2), .val (.int (1 : Int32)), .val (.int z85_0), .val (.int (-1 : Int32)), .val (.int (0 : Int32)), .unset]) rfl) ?_
          show Ends p e below s _ _ _ T86 (mkF m 75 #[.val (.int i0), .val (.int i1), .val (.int i2), .val (.int (1 : Int32)), .val (.int z85_0), .val (.int (-1 : Int32)), .val (.int (0 : Int32)), .unset] [])
          refine go (fun _ => XS.iload X86.here hx rfl (hb hby at_75) rfl) ?_
          show Ends p e below s _ _ _ T86 (mkF m 77 #[.val (.int i0), .val (.int i1), .val (.int i2), .val (.int (1 : Int32)), .val (.int z85_0), .val (.int (-1 : Int32)), .val (.int (0 : Int32)), .unset] [(.int (0 : Int32))])
          refine go (fun _ => XS.ifNo X86.here hx rfl (hb hby at_77) rfl (XT.i0_ne_f ((by decide) : (0 : Int32) = (0 : Int32)))) ?_
          show Ends p e below s _ _ _ T86 (mkF m 80 #[.val (.int i0), .val (.int i1), .val (.int i2), .val (.int (1 : Int32)), .val (.int z85_0), .val (.int (-1 : Int32)), .val (.int (0 : Int32)), .unset] [])
          refine go (fun _ => XS.iload X86.here hx rfl (hb hby at_80) rfl) ?_
          show Ends p e below s _ _ _ T86 (mkF m 82 #[.val (.int i0), .val (.int i1), .val (.int i2), .val (.int (1 : Int32)), .val (.int z85_0), .val (.int (-1 : Int32)), .val (.int (0 : Int32)), .unset] [(.int (-1 : Int32))])
          refine go (fun _ => XT.iconstV X86.here hx rfl (-1 : Int32) (hb hby at_82) (by decide)) ?_
          show Ends p e below s _ _ _ T86 (mkF m 83 #[.val (.int i0), .val (.int i1), .val (.int i2), .val (.int (1 : Int32)), .val (.int z85_0), .val (.int (-1 : Int32)), .val (.int (0 : Int32)), .unset] [(.int (-1 : Int32)), (.int (-1 : Int32))])
          refine go (fun _ => XS.icmpNo X86.here hx rfl (hb hby at_83) rfl (XT.ii_ne_f ((by decide) : (-1 : Int32) = (-1 : Int32)))) ?_
          show Ends p e below s _ _ _ T86 (mkF m 86 #[.val (.int i0), .val (.int i1), .val (.int i2), .val (.int (1 : Int32)), .val (.int z85_0), .val (.int (-1 : Int32)), .val (.int (0 : Int32)), .unset] [])
          refine go (fun _ => XT.iconstV X86.here hx rfl (1 : Int32) (hb hby at_86) (by decide)) ?_
          show Ends p e below s _ _ _ T86 (mkF m 87 #[.val (.int i0), .val (.int i1), .val (.int i2), .val (.int (1 : Int32)), .val (.int z85_0), .val (.int (-1 : Int32)), .val (.int (0 : Int32)), .unset] [(.int (1 : Int32))])
          refine go (fun _ => XS.goto X86.here hx rfl (pc0 := 87) (pc' := 91) rfl (hb hby at_87) (by decide) (by decide)) ?_
          show Ends p e below s _ _ _ T86 (mkF m 91 #[.val (.int i0), .val (.int i1), .val (.int i2), .val (.int (1 : Int32)), .val (.int z85_0), .val (.int (-1 : Int32)), .val (.int (0 : Int32)), .unset] [(.int (1 : Int32))])
          exact endN X86 hx hlk hret (by simp) (hb hby at_91) e86 ⟨rfl, N86a⟩ (by decide) (by decide)
      · rw [own_mvc (Or.inr c.2)]
        show Ends p e below s _ _ _ T86 (mkF m 35 #[.val (.int i0), .val (.int i1), .val (.int i2), .val (.int z84_0), .val (.int z85_0), .unset, .unset, .unset] [(.int (-1 : Int32))])
        refine go (fun _ => XS.istore X86.here hx rfl (hb hby at_35) rfl (l' := #[.val (.int i0), .val (.int i1), .val (.int i2), .val (.int z84_0), .val (.int z85_0), .val (.int (-1 : Int32)), .unset, .unset]) rfl) ?_
        show Ends p e below s _ _ _ T86 (mkF m 37 #[.val (.int i0), .val (.int i1), .val (.int i2), .val (.int z84_0), .val (.int z85_0), .val (.int (-1 : Int32)), .unset, .unset] [])
        refine go (fun _ => XS.iloadN X86.here hx rfl (hb hby at_37) rfl) ?_
        show Ends p e below s _ _ _ T86 (mkF m 38 #[.val (.int i0), .val (.int i1), .val (.int i2), .val (.int z84_0), .val (.int z85_0), .val (.int (-1 : Int32)), .unset, .unset] [(.int z84_0)])
        refine go (fun _ => XT.iconstV X86.here hx rfl (-1 : Int32) (hb hby at_38) (by decide)) ?_
        show Ends p e below s _ _ _ T86 (mkF m 39 #[.val (.int i0), .val (.int i1), .val (.int i2), .val (.int z84_0), .val (.int z85_0), .val (.int (-1 : Int32)), .unset, .unset] [(.int (-1 : Int32)), (.int z84_0)])
        refine go (fun _ => XS.icmpNo X86.here hx rfl (hb hby at_39) rfl (XT.ii_lt_f c.1)) ?_
        show Ends p e below s _ _ _ T86 (mkF m 42 #[.val (.int i0), .val (.int i1), .val (.int i2), .val (.int z84_0), .val (.int z85_0), .val (.int (-1 : Int32)), .unset, .unset] [])
        refine go (fun _ => XS.iloadN X86.here hx rfl (hb hby at_42) rfl) ?_
        show Ends p e below s _ _ _ T86 (mkF m 43 #[.val (.int i0), .val (.int i1), .val (.int i2), .val (.int z84_0), .val (.int z85_0), .val (.int (-1 : Int32)), .unset, .unset] [(.int z84_0)])
        refine go (fun _ => XT.iconstV X86.here hx rfl (1 : Int32) (hb hby at_43) (by decide)) ?_
        show Ends p e below s _ _ _ T86 (mkF m 44 #[.val (.int i0), .val (.int i1), .val (.int i2), .val (.int z84_0), .val (.int z85_0), .val (.int (-1 : Int32)), .unset, .unset] [(.int (1 : Int32)), (.int z84_0)])
        refine go (fun _ => XS.icmpYes X86.here hx rfl (pc0 := 44) (pc' := 72) rfl (hb hby at_44) rfl (XT.ii_gt_t c.2) (by decide) (by decide)) ?_
        show Ends p e below s _ _ _ T86 (mkF m 72 #[.val (.int i0), .val (.int i1), .val (.int i2), .val (.int z84_0), .val (.int z85_0), .val (.int (-1 : Int32)), .unset, .unset] [])
        refine go (fun _ => XT.iconstV X86.here hx rfl (0 : Int32) (hb hby at_72) (by decide)) ?_
        show Ends p e below s _ _ _ T86 (mkF m 73 #[.val (.int i0), .val (.int i1), .val (.int i2), .val (.int z84_0), .val (.int z85_0), .val (.int (-1 : Int32)), .unset, .unset] [(.int (0 : Int32))])
        refine go (fun _ => XS.istore X86.here hx rfl (hb hby at_73) rfl (l' := #[.val (.int i0), .val (.int i1), .val (.int i2), .val (.int z84_0), .val (.int z85_0), .val (.int (-1 : Int32)), .val (.int (0 : Int32)), .unset]) rfl) ?_
        show Ends p e below s _ _ _ T86 (mkF m 75 #[.val (.int i0), .val (.int i1), .val (.int i2), .val (.int z84_0), .val (.int z85_0), .val (.int (-1 : Int32)), .val (.int (0 : Int32)), .unset] [])
        refine go (fun _ => XS.iload X86.here hx rfl (hb hby at_75) rfl) ?_
        show Ends p e below s _ _ _ T86 (mkF m 77 #[.val (.int i0), .val (.int i1), .val (.int i2), .val (.int z84_0), .val (.int z85_0), .val (.int (-1 : Int32)), .val (.int (0 : Int32)), .unset] [(.int (0 : Int32))])
        refine go (fun _ => XS.ifNo X86.here hx rfl (hb hby at_77) rfl (XT.i0_ne_f ((by decide) : (0 : Int32) = (0 : Int32)))) ?_
        show Ends p e below s _ _ _ T86 (mkF m 80 #[.val (.int i0), .val (.int i1), .val (.int i2), .val (.int z84_0), .val (.int z85_0), .val (.int (-1 : Int32)), .val (.int (0 : Int32)), .unset] [])
        refine go (fun _ => XS.iload X86.here hx rfl (hb hby at_80) rfl) ?_
        show Ends p e below s _ _ _ T86 (mkF m 82 #[.val (.int i0), .val (.int i1), .val (.int i2), .val (.int z84_0), .val (.int z85_0), .val (.int (-1 : Int32)), .val (.int (0 : Int32)), .unset] [(.int (-1 : Int32))])
        refine go (fun _ => XT.iconstV X86.here hx rfl (-1 : Int32) (hb hby at_82) (by decide)) ?_
        show Ends p e below s _ _ _ T86 (mkF m 83 #[.val (.int i0), .val (.int i1), .val (.int i2), .val (.int z84_0), .val (.int z85_0), .val (.int (-1 : Int32)), .val (.int (0 : Int32)), .unset] [(.int (-1 : Int32)), (.int (-1 : Int32))])
        refine go (fun _ => XS.icmpNo X86.here hx rfl (hb hby at_83) rfl (XT.ii_ne_f ((by decide) : (-1 : Int32) = (-1 : Int32)))) ?_
        show Ends p e below s _ _ _ T86 (mkF m 86 #[.val (.int i0), .val (.int i1), .val (.int i2), .val (.int z84_0), .val (.int z85_0), .val (.int (-1 : Int32)), .val (.int (0 : Int32)), .unset] [])
        refine go (fun _ => XT.iconstV X86.here hx rfl (1 : Int32) (hb hby at_86) (by decide)) ?_
        show Ends p e below s _ _ _ T86 (mkF m 87 #[.val (.int i0), .val (.int i1), .val (.int i2), .val (.int z84_0), .val (.int z85_0), .val (.int (-1 : Int32)), .val (.int (0 : Int32)), .unset] [(.int (1 : Int32))])
        refine go (fun _ => XS.goto X86.here hx rfl (pc0 := 87) (pc' := 91) rfl (hb hby at_87) (by decide) (by decide)) ?_
        show Ends p e below s _ _ _ T86 (mkF m 91 #[.val (.int i0), .val (.int i1), .val (.int i2), .val (.int z84_0), .val (.int z85_0), .val (.int (-1 : Int32)), .val (.int (0 : Int32)), .unset] [(.int (1 : Int32))])
        exact endN X86 hx hlk hret (by simp) (hb hby at_91) e86 ⟨rfl, N86a⟩ (by decide) (by decide)
    by_cases c17_135 : (i2 &&& (2 : Int32)) = (0 : Int32)
    · refine go (fun _ => XS.ifYes X0.here hx rfl (pc0 := 17) (pc' := 26) rfl (hb hby at_17) rfl (XT.i0_eq_t c17_135) (by decide) (by decide)) ?_
      show Ends p e below s _ _ _ T0 (mkF m 26 #[.val (.int i0), .val (.int i1), .val (.int i2), .val (.int z84_0), .unset, .unset, .unset, .unset] [])
      refine go (fun _ => XS.iloadN X0.here hx rfl (hb hby at_26) rfl) ?_
      show Ends p e below s _ _ _ T0 (mkF m 27 #[.val (.int i0), .val (.int i1), .val (.int i2), .val (.int z84_0), .unset, .unset, .unset, .unset] [(.int i1)])
      exact J27 _
    · refine go (fun _ => XS.ifNo X0.here hx rfl (hb hby at_17) rfl (XT.i0_eq_f c17_135)) ?_
      show Ends p e below s _ _ _ T0 (mkF m 20 #[.val (.int i0), .val (.int i1), .val (.int i2), .val (.int z84_0), .unset, .unset, .unset, .unset] [])
      refine go (fun _ => XS.iloadN X0.here hx rfl (hb hby at_20) rfl) ?_
      show Ends p e below s _ _ _ T0 (mkF m 21 #[.val (.int i0), .val (.int i1), .val (.int i2), .val (.int z84_0), .unset, .unset, .unset, .unset] [(.int i1)])
      refine go (fun _ => XT.iconstV X0.here hx rfl (2 : Int32) (hb hby at_21) (by decide)) ?_
      show Ends p e below s _ _ _ T0 (mkF m 22 #[.val (.int i0), .val (.int i1), .val (.int i2), .val (.int z84_0), .unset, .unset, .unset, .unset] [(.int (2 : Int32)), (.int i1)])
      refine go (fun _ => iremM X0 hx rfl (hb hby at_22) rfl (by decide)) ?_
      show Ends p e below s _ _ _ T0 (mkF m 23 #[.val (.int i0), .val (.int i1), .val (.int i2), .val (.int z84_0), .unset, .unset, .unset, .unset] [(.int (i1 % (2 : Int32)))])
      refine go (fun _ => XS.goto X0.here hx rfl (pc0 := 23) (pc' := 27) rfl (hb hby at_23) (by decide) (by decide)) ?_
      show Ends p e below s _ _ _ T0 (mkF m 27 #[.val (.int i0), .val (.int i1), .val (.int i2), .val (.int z84_0), .unset, .unset, .unset, .unset] [(.int (i1 % (2 : Int32)))])
      exact J27 _
  by_cases c3_136 : (i2 &&& (1 : Int32)) = (0 : Int32)
  · refine go (fun _ => XS.ifYes X0.here hx rfl (pc0 := 3) (pc' := 12) rfl (hb hby at_3) rfl (XT.i0_eq_t c3_136) (by decide) (by decide)) ?_
    show Ends p e below s _ _ _ T0 (mkF m 12 #[.val (.int i0), .val (.int i1), .val (.int i2), .unset, .unset, .unset, .unset, .unset] [])
    refine go (fun _ => XS.iloadN X0.here hx rfl (hb hby at_12) rfl) ?_
    show Ends p e below s _ _ _ T0 (mkF m 13 #[.val (.int i0), .val (.int i1), .val (.int i2), .unset, .unset, .unset, .unset, .unset] [(.int i0)])
    exact J13 _
  · refine go (fun _ => XS.ifNo X0.here hx rfl (hb hby at_3) rfl (XT.i0_eq_f c3_136)) ?_
    show Ends p e below s _ _ _ T0 (mkF m 6 #[.val (.int i0), .val (.int i1), .val (.int i2), .unset, .unset, .unset, .unset, .unset] [])
    refine go (fun _ => XS.iloadN X0.here hx rfl (hb hby at_6) rfl) ?_
    show Ends p e below s _ _ _ T0 (mkF m 7 #[.val (.int i0), .val (.int i1), .val (.int i2), .unset, .unset, .unset, .unset, .unset] [(.int i0)])
    refine go (fun _ => XT.iconstV X0.here hx rfl (2 : Int32) (hb hby at_7) (by decide)) ?_
    show Ends p e below s _ _ _ T0 (mkF m 8 #[.val (.int i0), .val (.int i1), .val (.int i2), .unset, .unset, .unset, .unset, .unset] [(.int (2 : Int32)), (.int i0)])
    refine go (fun _ => iremM X0 hx rfl (hb hby at_8) rfl (by decide)) ?_
    show Ends p e below s _ _ _ T0 (mkF m 9 #[.val (.int i0), .val (.int i1), .val (.int i2), .unset, .unset, .unset, .unset, .unset] [(.int (i0 % (2 : Int32)))])
    refine go (fun _ => XS.goto X0.here hx rfl (pc0 := 9) (pc' := 13) rfl (hb hby at_9) (by decide) (by decide)) ?_
    show Ends p e below s _ _ _ T0 (mkF m 13 #[.val (.int i0), .val (.int i1), .val (.int i2), .unset, .unset, .unset, .unset, .unset] [(.int (i0 % (2 : Int32)))])
    exact J13 _
set_option maxRecDepth 65536 in
set_option maxHeartbeats 40000000 in
theorem comes_1 {Post : Tables → Env → Array Value → State → Outcome → State → Prop} (hpost : ∀ tb e args s v u, (limb_1_1.after args s (.returned v) u = true ∧ limb_1_2.after args s (.returned v) u = true ∧ True) → FrameEnd s (.returned v) u (Jvm.fieldLocs frame_1_writes args s ++ Jvm.arrayLocs frame_1_arrays args s ++ Jvm.staticLocs frame_1_statics s) 0 0 → Post tb e args s (.returned v) u) :
    ArmFor flags0 classFile x code maxLocals ret World_1 tables_1 room_1 Calls_1 rest_1 Pre_1 Post := by
  intro l hfl _ _ p e ha hc hk s m args below hf hA hF happ hP
  obtain ⟨hcalls, hrest, hpre⟩ := hP
  obtain ⟨-, -, -, hnamed, -, -, -, hat⟩ := (Spec.applies_iff hf).mp happ
  obtain ⟨hg, hn⟩ := and_e (Cond.before_iff.mp (show (Jvm.Cond.and given_1 narrow_1).before args s = true from hpre))
  obtain ⟨gv0, gvtr⟩ := and_e hg
  obtain ⟨gv1, gvtrr⟩ := and_e gvtr
  obtain ⟨gv2, gv3⟩ := and_e gvtrr
  obtain ⟨w0, w1, w2, rfl⟩ : ∃ w0 w1 w2 : Value, args = #[w0, w1, w2] := by
    have hs : args.size = 3 := by simpa [Cond.value, given_1] using gv0
    obtain ⟨L⟩ := args
    match L, hs with
    | [w0, w1, w2], _ => exact ⟨w0, w1, w2, rfl⟩
  have hw := fun d (hd : d ∈ tables_1) => atoms_spec (ws := Jvm.Cond.code x code maxLocals ret :: tables_1) hat d (List.mem_cons_of_mem _ hd)
  have hfit : Fit s := fun {y c} hc i hi => by
    obtain ⟨ha, rfl⟩ := Array.getElem?_eq_some_iff.mp hc
    have q := List.all_eq_true.mp ((Array.all_eq_true_iff_forall_mem.mp hF) _ (Array.getElem_mem ha)) i (List.mem_range.mpr hi)
    simpa [Array.getElem?_eq_getElem hi] using q
  obtain ⟨i0, ei0⟩ := is_v gv1
  obtain rfl : w0 = (.int i0) := Option.some.inj ei0
  obtain ⟨i1, ei1⟩ := is_v gv2
  obtain rfl : w1 = (.int i1) := Option.some.inj ei1
  obtain ⟨i2, ei2⟩ := is_v gv3
  obtain rfl : w2 = (.int i2) := Option.some.inj ei2
  obtain ⟨nr0, nrtr⟩ := and_e hn
  obtain ⟨nr1, nrtrr⟩ := and_e nrtr
  obtain ⟨nr2, nrtrrr⟩ := and_e nrtrr
  obtain ⟨nr3, nrtrrrr⟩ := and_e nrtrrr
  obtain ⟨nr4, nrtrrrrr⟩ := and_e nrtrrrr
  obtain ⟨nr5, nrtrrrrrr⟩ := and_e nrtrrrrr
  obtain ⟨nr6, nrtrrrrrrr⟩ := and_e nrtrrrrrr
  obtain ⟨nr7, nrtrrrrrrrr⟩ := and_e nrtrrrrrrr
  obtain ⟨nr8, nrtrrrrrrrrr⟩ := and_e nrtrrrrrrrr
  obtain ⟨nr9, nrtrrrrrrrrrr⟩ := and_e nrtrrrrrrrrr
  obtain ⟨nr10, nrtrrrrrrrrrrr⟩ := and_e nrtrrrrrrrrrr
  obtain ⟨nr11, nrtrrrrrrrrrrrr⟩ := and_e nrtrrrrrrrrrrr
  obtain ⟨nr12, nrtrrrrrrrrrrrrr⟩ := and_e nrtrrrrrrrrrrrr
  obtain ⟨nr13, nrtrrrrrrrrrrrrrr⟩ := and_e nrtrrrrrrrrrrrrr
  obtain ⟨nr14, nrtrrrrrrrrrrrrrrr⟩ := and_e nrtrrrrrrrrrrrrrr
  obtain ⟨nr15, nrtrrrrrrrrrrrrrrrr⟩ := and_e nrtrrrrrrrrrrrrrrr
  obtain ⟨nr16, nrtrrrrrrrrrrrrrrrrr⟩ := and_e nrtrrrrrrrrrrrrrrrr
  obtain ⟨nr17, nrtrrrrrrrrrrrrrrrrrr⟩ := and_e nrtrrrrrrrrrrrrrrrrr
  obtain ⟨nr18, nr19⟩ := and_e nrtrrrrrrrrrrrrrrrrrr
  obtain ⟨aC, evC⟩ := arr_v nr0
  have SC := Sta.start evC (Or.inr ⟨(hw _ (List.mem_of_getElem? (i := 2) rfl)), (hw _ (List.mem_of_getElem? (i := 5) rfl))⟩)
  obtain ⟨clC, AC⟩ := Arr.start evC nr0
  have VC : Arv s s.heap aC clC.cls .int (8 : Int32) own_cs (.int 0) := own_arr hfit evC AC nr1 (by decide) (by decide) ⟨own_at evC AC (j := 0) (by decide) nr4 (by decide), own_at evC AC (j := 1) (by decide) nr5 (by decide), own_at evC AC (j := 2) (by decide) nr6 (by decide), own_at evC AC (j := 3) (by decide) nr7 (by decide), own_at evC AC (j := 4) (by decide) nr8 (by decide), own_at evC AC (j := 5) (by decide) nr9 (by decide), own_at evC AC (j := 6) (by decide) nr10 (by decide), own_at evC AC (j := 7) (by decide) nr11 (by decide), trivial⟩
  obtain ⟨aR, evR⟩ := arr_v nr2
  have SR := Sta.start evR (Or.inr ⟨(hw _ (List.mem_of_getElem? (i := 2) rfl)), (hw _ (List.mem_of_getElem? (i := 7) rfl))⟩)
  obtain ⟨clR, AR⟩ := Arr.start evR nr2
  have VR : Arv s s.heap aR clR.cls .int (8 : Int32) own_rs (.int 0) := own_arr hfit evR AR nr3 (by decide) (by decide) ⟨own_at evR AR (j := 0) (by decide) nr12 (by decide), own_at evR AR (j := 1) (by decide) nr13 (by decide), own_at evR AR (j := 2) (by decide) nr14 (by decide), own_at evR AR (j := 3) (by decide) nr15 (by decide), own_at evR AR (j := 4) (by decide) nr16 (by decide), own_at evR AR (j := 5) (by decide) nr17 (by decide), own_at evR AR (j := 6) (by decide) nr18 (by decide), own_at evR AR (j := 7) (by decide) nr19 (by decide), trivial⟩
  obtain ⟨n, o, h1, h2, h3, _, L, rfl, ⟨rfl, N⟩, hq⟩ := (rm_law (l := l) hw i0 i1 i2 aC aR clC.cls clR.cls s.heap ⟨Nat.le_refl _, fun _ _ q => q⟩ SC SR VC VR) tables_1 p e ha hc hk s m _ below hf ((Spec.applies_iff_loose hf).mp happ).1 ⟨rfl, State.Warmed39.refl s, rfl⟩ trivial
  refine ⟨n, _, h1, h2, h3, hpost _ _ _ _ _ _ ⟨Cond.after_iff.mpr rfl, Cond.after_iff.mpr (eq_i res_at (Term.int_eval (1)) rfl), trivial⟩ ⟨hq.1, hq.2.1, (hq.2.2.sift fun y hy => Or.inr (N y hy)).mono (by decide) (by decide)⟩⟩
theorem main_1_1 : Claimed_1_1 := comes_1 fun _ _ _ _ _ _ h hF => ⟨h.1, hF⟩
theorem main_1_2 : Claimed_1_2 := comes_1 fun _ _ _ _ _ _ h hF => ⟨h.2.1, hF⟩
end Jvm.Pilot.@@N@@
namespace Jvm.Pilot.@@N@@
open Jvm Jvm.ClassFile Sem Op Lib Jvm.Free Jvm.Stand Jvm.Pilot.@@N@@.Jvm.D
/-! MADE BY PROGRAM (witnessworld.py) out of the Statement's table words and the real class files: 9 classes; the members and pool entries that the words name. The judged class is class 1, her method 1. -/
namespace start1
open Jvm.ClassFile
def u (s : String) : CpInfo := .utf8 (stringToUtf16 s)
/-- a pool by its gaps: so many unusable entries, then the entry; so many at the end -/
def gap : Nat → List CpInfo → List CpInfo
  | 0, r => r
  | n + 1, r => .unusable :: gap n r
def poolList (es : List (Nat × CpInfo)) (last : Nat) : List CpInfo := es.foldr (fun e r => gap e.1 (e.2 :: r)) (gap last [])
def pool (es : List (Nat × CpInfo)) (last : Nat) : Array CpInfo := ⟨poolList es last⟩
def fileOf (pool : Array CpInfo) (this : Nat) (attrs : Array Attribute := #[]) (ms : Array MethodInfo := #[]) (fl : Nat := 33) (sup : Nat := 0) (ifs : Array Nat := #[]) (fds : Array FieldInfo := #[]) : ClassFile where
  minorVersion := 0
  majorVersion := 65
  constantPool := pool
  accessFlags := fl
  thisClass := this
  superClass := sup
  interfaces := ifs
  fields := fds
  methods := ms
  attributes := attrs
def plain (name : String) (sup : Option ClassId) : Class where
  name := name
  kind := .ordinary
  loader := none
  accessFlags := 33
  super := sup
  interfaces := #[]
  cf := none
  fields := #[]
  methods := #[]
  instanceTypes := #[]
  staticTypes := #[]
  resolved := #[]
  callSites := []
  init := .initialized
  statics := none
  mirror := none

def pool0 : Array CpInfo := pool [(5, u "<init>"), (0, u "()V"), (1, .class_ 10), (1, u "java/lang/Object")] 113

def k0m0 : Method := { name := "<init>", desc := "()V", sig := { parameters := [], returnType := none }, accessFlags := 1, code := none }
/-- java/lang/Object -/
def k0 : Class := { plain "java/lang/Object" none with
  accessFlags := 33
  interfaces := #[]
  cf := some (fileOf pool0 8 #[] #[{ accessFlags := 1, nameIndex := 5, descriptorIndex := 6, attributes := #[] }] 33 0 #[] #[])
  fields := #[]
  methods := #[k0m0]
  instanceTypes := #[]
  staticTypes := #[]
  resolved := Array.replicate 124 none
  statics := none }

def pool1 : Array CpInfo := pool [(2, .class_ 4), (1, u "java/lang/Object"), (0, u "<init>"), (0, u "()V"), (0, .methodref 8 9), (0, .class_ 10), (0, .nameAndType 11 12), (0, u "com/example/pedestrain/pedestrain/core/Grid"), (0, u "moveOf"), (0, u "(II)I"), (0, .fieldref 8 14), (0, .nameAndType 15 16), (0, u "COLUMN_STEP"), (0, u "[I"), (0, .fieldref 8 18), (0, .nameAndType 19 16), (0, u "ROW_STEP"), (0, .class_ 21), (0, u "com/example/pedestrain/pedestrain/core/GridMoveOfPinLaw"), (2, u "law"), (0, u "(III)Z")] 3

def k1m0 : Method := { name := "<init>", desc := "()V", sig := { parameters := [], returnType := none }, accessFlags := 2, code := none }
def k1c1 : Code := { maxStack := 2, maxLocals := 8, code := code, exceptionTable := #[], attributes := #[] }
def k1m1 : Method := { name := "law", desc := "(III)Z", sig := { parameters := [.int, .int, .int], returnType := some .boolean }, accessFlags := 9, code := some k1c1 }
/-- com/example/pedestrain/pedestrain/core/GridMoveOfPinLaw -/
def k1 : Class := { plain "com/example/pedestrain/pedestrain/core/GridMoveOfPinLaw" (some 0) with
  accessFlags := 49
  interfaces := #[]
  cf := some (fileOf pool1 20 #[] #[{ accessFlags := 2, nameIndex := 5, descriptorIndex := 6, attributes := #[] }, { accessFlags := 9, nameIndex := 24, descriptorIndex := 25, attributes := #[] }] 49 2 #[] #[])
  fields := #[]
  methods := #[k1m0, k1m1]
  instanceTypes := #[]
  staticTypes := #[]
  resolved := Array.replicate 29 none
  statics := none }

def pool2 : Array CpInfo := pool [(2, .class_ 4), (1, u "java/lang/Object"), (10, u "walkable"), (32, .class_ 50), (1, u "com/example/pedestrain/pedestrain/core/Grid"), (0, u "cellSize"), (0, u "D"), (13, u "originX"), (8, u "originY"), (6, u "columns"), (0, u "I"), (2, u "rows"), (2, u "wrapsX"), (0, u "Z"), (22, u "[Z"), (2, u "moves"), (0, u "[B"), (2, u "exitOf"), (0, u "[I"), (24, u "ALL_PROBES"), (33, u "(II)I"), (7, .fieldref 48 189), (0, .nameAndType 190 121), (0, u "COLUMN_STEP"), (0, .fieldref 48 192), (0, .nameAndType 193 121), (0, u "ROW_STEP"), (60, .class_ 256), (1, u "com/example/pedestrain/pedestrain/core/Grid$PieceAction"), (24, u "REVERSE"), (1, .class_ 285), (1, u "com/example/pedestrain/pedestrain/core/Grid$BlockedWay"), (87, u "PROBE_X"), (0, u "[D"), (2, u "PROBE_Y"), (26, u "MOVES"), (2, u "FIRST_DIAGONAL"), (1, u "NO_EXIT"), (1, u "WAY_REACH"), (0, u "CELL_COUNT_TOLERANCE"), (0, u "PROBE_DISTANCE"), (10, u "moveOf")] 96

def k2c0 : Code := { maxStack := 2, maxLocals := 4, code := prog_14_method_19_code, exceptionTable := #[], attributes := #[] }
def k2m0 : Method := { name := "moveOf", desc := "(II)I", sig := { parameters := [.int, .int], returnType := some .int }, accessFlags := 8, code := some k2c0 }
/-- com/example/pedestrain/pedestrain/core/Grid -/
def k2 : Class := { plain "com/example/pedestrain/pedestrain/core/Grid" (some 0) with
  accessFlags := 48
  interfaces := #[]
  cf := some (fileOf pool2 48 #[.nestMembers #[254, 283]] #[{ accessFlags := 8, nameIndex := 424, descriptorIndex := 180, attributes := #[] }] 48 2 #[] #[{ accessFlags := 24, nameIndex := 190, descriptorIndex := 121, attributes := #[] }, { accessFlags := 24, nameIndex := 193, descriptorIndex := 121, attributes := #[] }, { accessFlags := 24, nameIndex := 404, descriptorIndex := 83, attributes := #[] }, { accessFlags := 24, nameIndex := 407, descriptorIndex := 83, attributes := #[] }, { accessFlags := 24, nameIndex := 409, descriptorIndex := 83, attributes := #[] }, { accessFlags := 26, nameIndex := 281, descriptorIndex := 121, attributes := #[] }, { accessFlags := 26, nameIndex := 411, descriptorIndex := 52, attributes := #[] }, { accessFlags := 26, nameIndex := 412, descriptorIndex := 52, attributes := #[] }, { accessFlags := 26, nameIndex := 413, descriptorIndex := 52, attributes := #[] }, { accessFlags := 26, nameIndex := 373, descriptorIndex := 374, attributes := #[] }, { accessFlags := 26, nameIndex := 377, descriptorIndex := 374, attributes := #[] }, { accessFlags := 26, nameIndex := 146, descriptorIndex := 83, attributes := #[] }, { accessFlags := 18, nameIndex := 51, descriptorIndex := 52, attributes := #[] }, { accessFlags := 18, nameIndex := 66, descriptorIndex := 52, attributes := #[] }, { accessFlags := 18, nameIndex := 75, descriptorIndex := 52, attributes := #[] }, { accessFlags := 18, nameIndex := 82, descriptorIndex := 83, attributes := #[] }, { accessFlags := 18, nameIndex := 86, descriptorIndex := 83, attributes := #[] }, { accessFlags := 18, nameIndex := 89, descriptorIndex := 90, attributes := #[] }, { accessFlags := 18, nameIndex := 15, descriptorIndex := 113, attributes := #[] }, { accessFlags := 18, nameIndex := 116, descriptorIndex := 117, attributes := #[] }, { accessFlags := 18, nameIndex := 120, descriptorIndex := 121, attributes := #[] }])
  fields := #[{ name := "COLUMN_STEP", type := (.array .int), accessFlags := 24, slot := 0, constantValue := 0 }, { name := "ROW_STEP", type := (.array .int), accessFlags := 24, slot := 1, constantValue := 0 }, { name := "MOVES", type := .int, accessFlags := 24, slot := 2, constantValue := 0 }, { name := "FIRST_DIAGONAL", type := .int, accessFlags := 24, slot := 3, constantValue := 0 }, { name := "NO_EXIT", type := .int, accessFlags := 24, slot := 4, constantValue := 0 }, { name := "REVERSE", type := (.array .int), accessFlags := 26, slot := 5, constantValue := 0 }, { name := "WAY_REACH", type := .double, accessFlags := 26, slot := 6, constantValue := 0 }, { name := "CELL_COUNT_TOLERANCE", type := .double, accessFlags := 26, slot := 7, constantValue := 0 }, { name := "PROBE_DISTANCE", type := .double, accessFlags := 26, slot := 8, constantValue := 0 }, { name := "PROBE_X", type := (.array .double), accessFlags := 26, slot := 9, constantValue := 0 }, { name := "PROBE_Y", type := (.array .double), accessFlags := 26, slot := 10, constantValue := 0 }, { name := "ALL_PROBES", type := .int, accessFlags := 26, slot := 11, constantValue := 0 }, { name := "cellSize", type := .double, accessFlags := 18, slot := 0, constantValue := 0 }, { name := "originX", type := .double, accessFlags := 18, slot := 1, constantValue := 0 }, { name := "originY", type := .double, accessFlags := 18, slot := 2, constantValue := 0 }, { name := "columns", type := .int, accessFlags := 18, slot := 3, constantValue := 0 }, { name := "rows", type := .int, accessFlags := 18, slot := 4, constantValue := 0 }, { name := "wrapsX", type := .boolean, accessFlags := 18, slot := 5, constantValue := 0 }, { name := "walkable", type := (.array .boolean), accessFlags := 18, slot := 6, constantValue := 0 }, { name := "moves", type := (.array .byte), accessFlags := 18, slot := 7, constantValue := 0 }, { name := "exitOf", type := (.array .int), accessFlags := 18, slot := 8, constantValue := 0 }]
  methods := #[k2m0]
  instanceTypes := #[.double, .double, .double, .int, .int, .boolean, (.array .boolean), (.array .byte), (.array .int)]
  staticTypes := #[(.array .int), (.array .int), .int, .int, .int, (.array .int), .double, .double, .double, (.array .double), (.array .double), .int]
  resolved := Array.replicate 521 none
  statics := some 0 }

def pool3 : Array CpInfo := pool [(1, u "java/lang/Cloneable"), (0, .class_ 1), (0, u "java/lang/Object"), (0, .class_ 3)] 3

/-- java/lang/Cloneable -/
def k3 : Class := { plain "java/lang/Cloneable" (some 0) with
  accessFlags := 1537
  interfaces := #[]
  cf := some (fileOf pool3 2 #[] #[] 1537 4 #[] #[])
  fields := #[]
  methods := #[]
  instanceTypes := #[]
  staticTypes := #[]
  resolved := Array.replicate 8 none
  statics := none }

def pool4 : Array CpInfo := pool [(1, u "java/io/Serializable"), (0, .class_ 1), (0, u "java/lang/Object"), (0, .class_ 3)] 3

/-- java/io/Serializable -/
def k4 : Class := { plain "java/io/Serializable" (some 0) with
  accessFlags := 1537
  interfaces := #[]
  cf := some (fileOf pool4 2 #[] #[] 1537 4 #[] #[])
  fields := #[]
  methods := #[]
  instanceTypes := #[]
  staticTypes := #[]
  resolved := Array.replicate 8 none
  statics := none }

/-- the primitive byte -/
def k5 : Class := { plain "byte" none with kind := .primitive 'B', accessFlags := 0x411 }
/-- [B -/
def k6 : Class := { plain "[B" (some 0) with kind := .array 5 .byte, interfaces := #[3, 4], accessFlags := 1041 }

/-- the primitive int -/
def k7 : Class := { plain "int" none with kind := .primitive 'I', accessFlags := 0x411 }
/-- [I -/
def k8 : Class := { plain "[I" (some 0) with kind := .array 7 .int, interfaces := #[3, 4], accessFlags := 1041 }

def heap : Heap := #[{ cls := 2, slots := #[.ref 1, .ref 2, .int 0, .int 0, .int 0, .null, .double 0, .double 0, .double 0, .null, .null, .int 0], vm := .statics 2 },
  { cls := 8, slots := #[.int 1, .int 0, .int (-1), .int 0, .int 1, .int (-1), .int (-1), .int 1], vm := .none },
  { cls := 8, slots := #[.int 0, .int 1, .int 0, .int (-1), .int 1, .int 1, .int (-1), .int (-1)], vm := .none }]
def classes : Array Class := #[k0, k1, k2, k3, k4, k5, k6, k7, k8]
def interned : List (Array UInt16 × Addr) := []
def slotsUsed : Nat := 28
def theMethod : MethodId := ⟨1, 1⟩
def args0 : Array Value := #[.int 1, .int 1, .int 0]
def aboutOver (below : List Frame) : State where
  vm := { classes := classes, interned := interned.toArray }
  heap := heap
  slotsUsed := slotsUsed
  threads := #[{ frames := .invoking theMethod args0 :: below }]
def below0 : List Frame := [.native { method := ⟨0, 0⟩, args := #[] }]
def about1 : State := aboutOver below0
def p0 : Program := .bare "" "" ""
def e0 : Env := launch0.env 0 0 0
theorem w_frames : about1.frames = Frame.invoking theMethod args0 :: below0 := rfl
set_option maxRecDepth 65536 in
theorem w_args : argsFit about1.vm theMethod args0 = true := by decide +kernel
set_option maxRecDepth 65536 in
theorem w_heap : heapFits about1 = true := by decide +kernel
set_option maxRecDepth 65536 in
theorem w_runnable : about1.curStatus? = some .runnable := by decide +kernel
set_option maxRecDepth 65536 in
theorem w_alone : about1.alone = true := by decide +kernel
set_option maxRecDepth 65536 in
theorem w_named : about1.methodNamed? x = some theMethod := by decide +kernel
set_option maxRecDepth 65536 in
theorem w_hears : about1.hears theMethod below0 = true := by decide +kernel
set_option maxRecDepth 65536 in
theorem w_ripe : about1.ripe theMethod args0 below0 = true := by decide +kernel
theorem w_running : about1.status = .running := rfl
set_option maxRecDepth 65536 in
theorem w_room : about1.hasRoom e0.platform room_1 = true :=
  launch0.hasRoom_least _ room_1 (by decide +kernel) (by decide +kernel) (by decide +kernel) (by decide +kernel) (by decide +kernel) (by decide +kernel)
theorem allAtoms_all (ts : List Jvm.Cond) (a : Array Jvm.Value) (st : Jvm.State) : (allAtoms ts).before a st = ts.all (fun c => c.before a st) := by
  induction ts with
  | nil => rfl
  | cons c t ih =>
    show (Jvm.Cond.and c (allAtoms t)).before a st = _
    rw [Jvm.Cond.before_and, ih, List.all_cons]
def words1 : List Jvm.Cond := Jvm.Cond.code x code maxLocals ret :: tables_1
/-- a 'code' word, met by the world's own term for the bytes: nothing is compared byte by byte -/
theorem code_word {y : MethodName} {bytes : ByteArray} {mx : Nat} {rt : Option FieldType} {a : Array Value} {s : State} {m : MethodId} {meth : Method} {c : Code} (h1 : s.methodNamed? y = some m) (h2 : s.vm.method? m = some meth) (h3 : meth.code = some c) (h4 : c.code = bytes)
    (h5 : (c.maxLocals == mx && c.exceptionTable.isEmpty && decide (c.maxStack ≤ mostOperands) && decide (meth.sig.returnType = rt) && !meth.locks && decide (parseMethodDescriptor y.desc = some meth.sig)) = true) : (Jvm.Cond.code y bytes mx rt).before a s = true := by
  simp only [Bool.and_eq_true, beq_iff_eq, Bool.not_eq_true', decide_eq_true_eq] at h5
  obtain ⟨⟨⟨⟨⟨g1, g2⟩, g3⟩, g4⟩, g5⟩, g6⟩ := h5
  simp [Cond.before, Cond.holds, Cond.value, h1, h2, h3, h4, g1, g2, g3, g4, g5, g6]
def isCode : Jvm.Cond → Bool
  | .code _ _ _ _ => true
  | _ => false
theorem all_split {L : List Jvm.Cond} {P : Jvm.Cond → Bool} (h1 : L.all (fun c => isCode c || P c) = true) (h2 : ∀ c ∈ L.filter isCode, P c = true) : L.all P = true := by
  refine List.all_eq_true.mpr fun c hc => ?_
  have h := List.all_eq_true.mp h1 c hc
  rcases Bool.eq_false_or_eq_true (isCode c) with hi | hi
  · exact h2 c (List.mem_filter.mpr ⟨hc, hi⟩)
  · simpa [hi] using h
set_option maxRecDepth 65536 in
theorem w_c0 : (Jvm.Cond.code x code maxLocals ret).before args0 about1 = true := code_word (m := ⟨1, 1⟩) (meth := k1m1) (c := k1c1) (by decide +kernel) rfl rfl rfl (by decide +kernel)
set_option maxRecDepth 65536 in
theorem w_c1 : (Jvm.Cond.code ({ cls := "com/example/pedestrain/pedestrain/core/Grid", name := "moveOf", desc := "(II)I" } : Jvm.MethodName) prog_14_method_19_code (4 : Nat) (Option.some Jvm.ClassFile.FieldType.int)).before args0 about1 = true := code_word (m := ⟨2, 0⟩) (meth := k2m0) (c := k2c0) (by decide +kernel) rfl rfl rfl (by decide +kernel)
def codes1 : List Jvm.Cond := [Jvm.Cond.code x code maxLocals ret, Jvm.Cond.code ({ cls := "com/example/pedestrain/pedestrain/core/Grid", name := "moveOf", desc := "(II)I" } : Jvm.MethodName) prog_14_method_19_code (4 : Nat) (Option.some Jvm.ClassFile.FieldType.int)]
set_option maxRecDepth 65536 in
theorem codes_eq : words1.filter isCode = codes1 := rfl
theorem w_codes : ∀ c ∈ words1.filter isCode, c.before args0 about1 = true := by
  rw [codes_eq]
  intro c hc
  simp only [codes1, List.mem_cons, List.not_mem_nil, or_false] at hc
  rcases hc with rfl | rfl
  · exact w_c0
  · exact w_c1
set_option maxRecDepth 65536 in
theorem w_t1 : words1.all (fun c => isCode c || c.before args0 about1) = true := by decide +kernel
theorem w_tables : (allAtoms (Jvm.Cond.code x code maxLocals ret :: tables_1)).before args0 about1 = true := by
  rw [allAtoms_all]
  show words1.all (fun c => c.before args0 about1) = true
  refine all_split ?_ w_codes
  rw [w_t1]
set_option maxRecDepth 65536 in
theorem w_case : (Jvm.Cond.and given_1 narrow_1).before args0 about1 = true := by decide +kernel
theorem w_applies : (headSpec (Jvm.Cond.code x code maxLocals ret :: tables_1) room_1).applies x e0.platform about1 = true :=
  (Spec.applies_iff w_frames).mpr ⟨w_running, w_runnable, w_alone, w_named, w_hears, w_ripe, w_room, w_tables⟩
theorem atStart : AtStart classFile x code maxLocals ret World_1 tables_1 room_1 Calls_1 rest_1 Pre_1 launch0 p0 e0 about1 theMethod args0 below0 :=
  ⟨lists_1, trivial, launch0.admits_env _ _ _, launch0.least_env, fairChoices_fair.cas, fairChoices_fair.clock, w_frames, w_args, w_heap, w_applies, trivial, trivial, w_case⟩
end start1
theorem witness_1 : WitnessClaimed_1 := ⟨start1.p0, start1.e0, start1.about1, start1.theMethod, start1.args0, start1.below0, start1.atStart⟩
end Jvm.Pilot.@@N@@
