import JvmDerived
import JvmDerived.Pilot.@@N@@Statement
import JvmDerived.Pilot.@@N@@Code
set_option linter.unusedVariables false
set_option linter.unusedSimpArgs false
namespace Jvm.Pilot.@@N@@
open Jvm Jvm.ClassFile Sem Op Lib Jvm.Free Jvm.Stand Jvm.LawKit Jvm.RoadKit Bundle Jvm.Pilot.@@N@@.Jvm.D
section Own
variable {p : Program} {l : Launch} {e : Env} {R : Room} {s : State} {m : MethodId} {args : Array Value} {below : List Frame} {meth : Method} {c : Code} {T : State} {locs : List Loc} {cells slots : Nat} {Z : State} {a0 : Array Value} {h h' : Heap} {Q : Option Value → Heap → List Loc → Prop} {rc rs : Nat}
/-- from here the run comes to its return, and what it leaves is Q -/
def Ends (p : Program) (e : Env) (below : List Frame) (s : State) (Q : Option Value → Heap → List Loc → Prop) (rc rs : Nat) (T : State) (g : JFrame) : Prop :=
  ∃ s₂ o, Steps p.tables e below (T.setTop g) s₂ ∧ s₂.status = .running ∧ Ended s₂ below o ∧ ∃ v L, o = .returned v ∧ Q v s₂.heap L ∧ FrameEnd s o s₂ L rc rs
theorem go {T' : State} {g g' : JFrame} (f : ∀ t, Steps p.tables e below (T'.setTop g') t → Steps p.tables e below (T.setTop g) t) (k : Ends p e below s Q rc rs T' g') : Ends p e below s Q rc rs T g := by
  obtain ⟨s₂, o, h1, r⟩ := k
  exact ⟨s₂, o, f _ h1, r⟩
theorem goS {T' : State} {g g' : JFrame} (f : Steps p.tables e below (T.setTop g) (T'.setTop g')) (k : Ends p e below s Q rc rs T' g') : Ends p e below s Q rc rs T g := by
  obtain ⟨s₂, o, h1, r⟩ := k
  exact ⟨s₂, o, f.trans h1, r⟩
theorem retI (X : Stand p l e R s m args below meth c T locs cells slots) (hx : p.tables.exec = Jvm.exec) {pc : Nat} {Ls : Array Slot} {z : Int32} {rest : List Value} (hret : meth.sig.returnType = some .int) (hd : decode c.code pc = .ok (.ireturn, 1)) {fs : List Frame}
    (hl : ∀ (f : JFrame) (acts : List Action), f.method = m → f.locked = none → f.entered = [] → (doReturn e (T.setTop f) acts (some (.int z))).1 = T.setFrames fs) : Steps p.tables e below (T.setTop (mkF m pc Ls (.int z :: rest))) (T.setFrames fs) := by
  have hm' : T.vm.method? m = some meth := X.method'
  have hn : narrow .int (.int z) = .int z := rfl
  show Steps p.tables e below (T.setTop { method := m, pc := pc, locals := Ls, stack := _ :: rest, locked := none }) _
  jvm_step X.here [X.here.top, hx, hd, hm', hret, hn]
  first | (intro acts; rw [hl _ acts rfl rfl rfl]) | rw [hl _ _ rfl rfl rfl]
  exact Steps.refl _
theorem endI (X : Stand p l e R s m args below meth c T locs cells slots) (hx : p.tables.exec = Jvm.exec) (hlk : meth.locks = false) {pc : Nat} {Ls : Array Slot} {z : Int32} {rest : List Value} (hret : meth.sig.returnType = some .int) (hd : decode c.code pc = .ok (.ireturn, 1)) (eT : T.heap = h) (hq : Q (some (.int z)) h locs) (hc : cells ≤ rc) (hs : slots ≤ rs) :
    Ends p e below s Q rc rs T (mkF m pc Ls (.int z :: rest)) := by
  subst eT
  obtain ⟨fs, hr, hrun, hended, hW, hsame⟩ := X.leave (v := some (.int z)) (fun h => by rw [hret] at h; cases h) hlk
  exact ⟨_, _, retI X hx hret hd hr, hrun, hended, _, _, rfl, hq, ⟨_, rfl⟩, hW, hsame.mono hc hs⟩
/-- a boolean, byte, char or short: what is returned is narrowed -/
theorem endN (X : Stand p l e R s m args below meth c T locs cells slots) (hx : p.tables.exec = Jvm.exec) (hlk : meth.locks = false) {pc : Nat} {Ls : Array Slot} {z : Int32} {t : FieldType} {rest : List Value} (hret : meth.sig.returnType = some t) (ht : t = .boolean ∨ t = .byte ∨ t = .char ∨ t = .short) (hd : decode c.code pc = .ok (.ireturn, 1)) (eT : T.heap = h) (hq : Q (some (.int (nar t z))) h locs) (hc : cells ≤ rc) (hs : slots ≤ rs) :
    Ends p e below s Q rc rs T (mkF m pc Ls (.int z :: rest)) := by
  subst eT
  obtain ⟨fs, hr, hrun, hended, hW, hsame⟩ := X.leave (v := some (.int (nar t z))) (fun h => by rw [hret] at h; cases h) hlk
  exact ⟨_, _, retN X hx hret ht hd hr, hrun, hended, _, _, rfl, hq, ⟨_, rfl⟩, hW, hsame.mono hc hs⟩
theorem endA (X : Stand p l e R s m args below meth c T locs cells slots) (hx : p.tables.exec = Jvm.exec) (hlk : meth.locks = false) {pc : Nat} {Ls : Array Slot} {w : Value} {t : FieldType} {rest : List Value} (hret : meth.sig.returnType = some t) (ht : t.isReference = true) (hw : w.isRef = true) (hd : decode c.code pc = .ok (.areturn, 1)) (eT : T.heap = h) (hq : Q (some w) h locs) (hc : cells ≤ rc) (hs : slots ≤ rs) :
    Ends p e below s Q rc rs T (mkF m pc Ls (w :: rest)) := by
  subst eT
  obtain ⟨fs, hr, hrun, hended, hW, hsame⟩ := X.leave (v := some w) (fun h => by rw [hret] at h; cases h) hlk
  have hn : narrow t w = w := by rcases ref_cases hw with rfl | ⟨b, rfl⟩ <;> cases t <;> rfl
  exact ⟨_, _, retOut X hx hret hn (Or.inr (Or.inr (Or.inr (Or.inr ⟨rfl, ht, hw⟩)))) hd hr, hrun, hended, _, _, rfl, hq, ⟨_, rfl⟩, hW, hsame.mono hc hs⟩
theorem endJ (X : Stand p l e R s m args below meth c T locs cells slots) (hx : p.tables.exec = Jvm.exec) (hlk : meth.locks = false) {pc : Nat} {Ls : Array Slot} {z : Int64} {rest : List Value} (hret : meth.sig.returnType = some .long) (hd : decode c.code pc = .ok (.lreturn, 1)) (eT : T.heap = h) (hq : Q (some (.long z)) h locs) (hc : cells ≤ rc) (hs : slots ≤ rs) :
    Ends p e below s Q rc rs T (mkF m pc Ls (.long z :: rest)) := by
  subst eT
  obtain ⟨fs, hr, hrun, hended, hW, hsame⟩ := X.leave (v := some (.long z)) (fun h => by rw [hret] at h; cases h) hlk
  exact ⟨_, _, retOut X hx hret rfl (Or.inr (Or.inl ⟨rfl, rfl, z, rfl⟩)) hd hr, hrun, hended, _, _, rfl, hq, ⟨_, rfl⟩, hW, hsame.mono hc hs⟩
theorem endV (X : Stand p l e R s m args below meth c T locs cells slots) (hx : p.tables.exec = Jvm.exec) (hlk : meth.locks = false) {pc : Nat} {Ls : Array Slot} (hret : meth.sig.returnType = none) (hd : decode c.code pc = .ok (.return_, 1)) (eT : T.heap = h) (hq : Q none h locs) (hc : cells ≤ rc) (hs : slots ≤ rs) :
    Ends p e below s Q rc rs T (mkF m pc Ls []) := by
  subst eT
  obtain ⟨fs, hr, hrun, hended, hW, hsame⟩ := X.leave (v := none) (fun _ => rfl) hlk
  exact ⟨_, _, X.returnOut hx hret hd hr, hrun, hended, _, _, rfl, hq, ⟨_, rfl⟩, hW, hsame.mono hc hs⟩
/-- a method's contract, at one heap and one list of arguments -/
def Con (l : Launch) (y : MethodName) (bytes : ByteArray) (maxL : Nat) (ret : Option FieldType) (rm : Room) (Z : State) (as' : Array Value) (h0 : Heap) (Q : Option Value → Heap → List Loc → Prop) : Prop :=
  ∀ ws, MetFree l y (head1 (Jvm.Cond.code y bytes maxL ret :: ws) rm) (fun a U => a = as' ∧ Z.Warmed39 U.vm ∧ U.heap = h0) (fun _ _ _ _ _ => True) (fun _ U o U' => ∃ v L, o = .returned v ∧ Q v U'.heap L ∧ FrameEnd U o U' L rm.cells rm.slots)
theorem Con.of {y : MethodName} {bytes : ByteArray} {maxL : Nat} {ret : Option FieldType} {rm : Room} {as' : Array Value} {h0 : Heap} (hp : plainFor y = true) {Ls : Array Slot} (hef : ∀ m, entryFrame m as' maxL = mkF m 0 Ls [])
    (body : ∀ {p : Program} {e : Env} {s : State} {m : MethodId} {below : List Frame} {meth : Method} {c : Code} {T : State}, Stand p l e rm s m as' below meth c T [] 0 0 → p.tables.exec = Jvm.exec → Z.Warmed39 s.vm → c.code = bytes → c.maxLocals = maxL → s.vm.findClass y.cls = some m.cls → meth.name = y.name → meth.sig.returnType = ret → meth.locks = false → T.heap = h0 → Ends p e below s Q rm.cells rm.slots T (mkF m 0 Ls [])) :
    Con l y bytes maxL ret rm Z as' h0 Q := by
  intro ws
  refine MetFree.of_bodySF hp hisR ?_
  intro p e s m args below meth c s₁ Bd hml0 hP hK
  obtain ⟨rfl, hZ, hh⟩ := hP
  have X0 : Stand p l e rm s m _ below meth c s₁ [] 0 0 := Stand.of_body Bd
  have e0 : s₁.heap = h0 := by rw [← hh, Bd.state]; rfl
  obtain ⟨s₂, o, h1, r⟩ := body X0 Bd.exec hZ Bd.bytes hml0 (findClass_of_methodNamed Bd.named) (name_of_methodNamed Bd.named Bd.method).1 Bd.returns Bd.notSynchronized e0
  exact ⟨s₂, o, castTop (hef m) h1, r⟩
theorem cStat {own : String} {index : Nat} {y : MethodName} {bytes : ByteArray} {maxL : Nat} {ret : Option FieldType} {rm : Room} {Q' : Option Value → Heap → List Loc → Prop} {pc : Nat} {Ls : Array Slot} {st : List Value}
    (X : Stand p l e R s m args below meth c T locs cells slots) (hx : p.tables.exec = Jvm.exec) (hZ : Z.Warmed39 s.vm) (hown : s.vm.findClass own = some m.cls) (hml : Ls.size = c.maxLocals) (eT : T.heap = h)
    (w1 : (Cond.methodLink own index y).before a0 Z = true) (w2 : (Cond.static y).before a0 Z = true) (w3 : (Cond.initialized y.cls).before a0 Z = true) (w4 : (Cond.code y bytes maxL ret).before a0 Z = true)
    (argsL rest : List Value) {as' : Array Value} (has : argsL.toArray = as') (hM : Con l y bytes maxL ret rm Z as' h Q') (hd : decode c.code pc = .ok (.invokestatic index, 3)) (hst : st = argsL.reverse ++ rest)
    (hlen : ∀ sig, parseMethodDescriptor y.desc = some sig → argsL.length = sig.parameters.length) (hy : y.cls ≠ "java/lang/invoke/MethodHandle" ∧ y.cls ≠ "java/lang/invoke/VarHandle")
    (hf : rm.frames + 1 ≤ R.frames) (hl : (rest.map fun v => v.category).sum + (maxL + 11) + rm.locals ≤ R.locals) (hc : cells + rm.cells ≤ R.cells) (hs : slots + rm.slots ≤ R.slots)
    (k : ∀ v T' h' L, Stand p l e R s m args below meth c T' (locs ++ L) (cells + rm.cells) (slots + rm.slots) → T'.heap = h' → Q' v h' L → Ends p e below s Q rc rs T' (mkF m (pc + 3) Ls (v.toList ++ rest))) :
    Ends p e below s Q rc rs T (mkF m pc Ls st) := by
  subst has
  obtain ⟨v, _, ⟨T', L', k', n'⟩, -, X', ⟨Lc, hQ, e1, e2, e3⟩, stp⟩ := Jvm.LawKit.callS X hx (y := y) hown (mvT hZ w1) (mvT hZ w2) (mvT hZ w3) (mvT hZ w4) hy (backOf (W := (rest.map fun v => v.category).sum) (hM []) hZ w4 w3 hf hl) (g := mkF m pc Ls st) rfl hml (argsL := argsL) (rest := rest) hlen hst (by show 2 * 0 + _ ≤ _; omega) hd (fun _ _ => ⟨rfl, eT, hc, hs⟩)
  dsimp only [Pt.U, Pt.locs, Pt.cells, Pt.slots] at X' e1 e2 e3 stp hQ
  subst e1 e2 e3
  exact go stp (k v T' _ Lc X' rfl hQ)
theorem cInit {own : String} {index : Nat} {y : MethodName} {bytes : ByteArray} {maxL : Nat} {rm : Room} {Q' : Option Value → Heap → List Loc → Prop} {pc : Nat} {Ls : Array Slot} {st : List Value}
    (X : Stand p l e R s m args below meth c T locs cells slots) (hx : p.tables.exec = Jvm.exec) (hZ : Z.Warmed39 s.vm) (hown : s.vm.findClass own = some m.cls) (hml : Ls.size = c.maxLocals) (eT : T.heap = h)
    (w1 : (Cond.methodLink own index y).before a0 Z = true) (w2 : (Cond.instanceMethod y).before a0 Z = true) (w3 : (Cond.initialized y.cls).before a0 Z = true) (w4 : (Cond.code y bytes maxL none).before a0 Z = true)
    (a : Addr) (argsL rest : List Value) {as' : Array Value} (has : (.ref a :: argsL).toArray = as') (hM : Con l y bytes maxL none rm Z as' h Q') (hd : decode c.code pc = .ok (.invokespecial index, 3)) (hst : st = argsL.reverse ++ .ref a :: rest)
    (hlen : ∀ sig, parseMethodDescriptor y.desc = some sig → argsL.length = sig.parameters.length) (hy1 : y.name = "<init>") (hy : y.cls ≠ "java/lang/invoke/MethodHandle" ∧ y.cls ≠ "java/lang/invoke/VarHandle")
    (hf : rm.frames + 1 ≤ R.frames) (hl : (rest.map fun v => v.category).sum + (maxL + 11) + rm.locals ≤ R.locals) (hc : cells + rm.cells ≤ R.cells) (hs : slots + rm.slots ≤ R.slots)
    (k : ∀ v T' h' L, Stand p l e R s m args below meth c T' (locs ++ L) (cells + rm.cells) (slots + rm.slots) → T'.heap = h' → Q' v h' L → Ends p e below s Q rc rs T' (mkF m (pc + 3) Ls (v.toList ++ rest))) :
    Ends p e below s Q rc rs T (mkF m pc Ls st) := by
  subst has
  obtain ⟨v, _, ⟨T', L', k', n'⟩, -, X', ⟨Lc, hQ, e1, e2, e3⟩, stp⟩ := X.specialBack hx (y := y) hy1 hown (mvT hZ w1) (mvT hZ w2) (mvT hZ w4) hy (backOf (W := (rest.map fun v => v.category).sum) (hM []) hZ w4 w3 hf hl) (g := mkF m pc Ls st) rfl hml (Steps.refl _) (a := a) (argsL := argsL) (rest := rest) hlen hst (by show 2 * 0 + _ ≤ _; omega) hd (fun _ _ => ⟨rfl, eT, hc, hs⟩)
  dsimp only [Pt.U, Pt.locs, Pt.cells, Pt.slots] at X' e1 e2 e3 stp hQ
  subst e1 e2 e3
  exact goS stp (k v T' _ Lc X' rfl hQ)
theorem cVirt {own K : String} {index : Nat} {y z : MethodName} {bytes : ByteArray} {maxL : Nat} {ret : Option FieldType} {rm : Room} {Q' : Option Value → Heap → List Loc → Prop} {pc : Nat} {Ls : Array Slot} {st : List Value}
    (X : Stand p l e R s m args below meth c T locs cells slots) (hx : p.tables.exec = Jvm.exec) (hZ : Z.Warmed39 s.vm) (hown : s.vm.findClass own = some m.cls) (hml : Ls.size = c.maxLocals) (eT : T.heap = h)
    (w1 : (Cond.methodLink own index y).before a0 Z = true) (w2 : (Cond.declares y).before a0 Z = true) (w3 : (Cond.selects K y z).before a0 Z = true) (w4 : (Cond.instanceMethod z).before a0 Z = true) (w5 : (Cond.initialized z.cls).before a0 Z = true) (w6 : (Cond.code z bytes maxL ret).before a0 Z = true) (hnf : NotFace s y)
    (a : Addr) (E : Exa Z h a K) (argsL rest : List Value) {as' : Array Value} (has : (.ref a :: argsL).toArray = as') (hM : Con l z bytes maxL ret rm Z as' h Q') (hd : decode c.code pc = .ok (.invokevirtual index, 3)) (hst : st = argsL.reverse ++ .ref a :: rest)
    (hlen : ∀ sig, parseMethodDescriptor y.desc = some sig → argsL.length = sig.parameters.length) (hy : y.cls ≠ "java/lang/invoke/MethodHandle" ∧ y.cls ≠ "java/lang/invoke/VarHandle")
    (hf : rm.frames + 1 ≤ R.frames) (hl : (rest.map fun v => v.category).sum + (maxL + 11) + rm.locals ≤ R.locals) (hc : cells + rm.cells ≤ R.cells) (hs : slots + rm.slots ≤ R.slots)
    (k : ∀ v T' h' L, Stand p l e R s m args below meth c T' (locs ++ L) (cells + rm.cells) (slots + rm.slots) → T'.heap = h' → Q' v h' L → Ends p e below s Q rc rs T' (mkF m (pc + 3) Ls (v.toList ++ rest))) :
    Ends p e below s Q rc rs T (mkF m pc Ls st) := by
  subst has
  obtain ⟨cq, kq, qa, qb, qc⟩ := isOf hZ eT E
  obtain ⟨v, _, ⟨T', L', k', n'⟩, -, X', ⟨Lc, hQ, e1, e2, e3⟩, stp⟩ := X.virtualBack hx (y := y) (z := z) hown (mvT hZ w1) (mvT hZ w2) hnf (mvT hZ w3) (mvT hZ w4) hy (backOf (W := (rest.map fun v => v.category).sum) (hM []) hZ w6 w5 hf hl) qa qc (g := mkF m pc Ls st) rfl hml (Steps.refl _) (argsL := argsL) (rest := rest) hlen hst (by show 2 * 0 + _ ≤ _; omega) hd (fun _ _ => ⟨rfl, eT, hc, hs⟩)
  dsimp only [Pt.U, Pt.locs, Pt.cells, Pt.slots] at X' e1 e2 e3 stp hQ
  subst e1 e2 e3
  exact goS stp (k v T' _ Lc X' rfl hQ)
theorem cFace {own K : String} {index count : Nat} {y z : MethodName} {bytes : ByteArray} {maxL : Nat} {ret : Option FieldType} {rm : Room} {Q' : Option Value → Heap → List Loc → Prop} {pc : Nat} {Ls : Array Slot} {st : List Value}
    (X : Stand p l e R s m args below meth c T locs cells slots) (hx : p.tables.exec = Jvm.exec) (hZ : Z.Warmed39 s.vm) (hown : s.vm.findClass own = some m.cls) (hml : Ls.size = c.maxLocals) (eT : T.heap = h)
    (w1 : (Cond.methodLink own index y).before a0 Z = true) (w2 : (Cond.declares y).before a0 Z = true) (wf : (Cond.interfaceMethod y.cls y.cls y.name y.desc).before args s = true) (w3 : (Cond.selects K y z).before a0 Z = true) (w4 : (Cond.instanceMethod z).before a0 Z = true) (wp : (Cond.publicMethod z).before a0 Z = true) (wu : (Cond.unhidden K y.name y.desc).before args s = true) (wc : (Cond.castable K y.cls).before a0 Z = true) (w5 : (Cond.initialized z.cls).before a0 Z = true) (w6 : (Cond.code z bytes maxL ret).before a0 Z = true)
    (a : Addr) (E : Exa Z h a K) (argsL rest : List Value) {as' : Array Value} (has : (.ref a :: argsL).toArray = as') (hM : Con l z bytes maxL ret rm Z as' h Q') (hd : decode c.code pc = .ok (.invokeinterface index count, 5)) (hst : st = argsL.reverse ++ .ref a :: rest)
    (hlen : ∀ sig, parseMethodDescriptor y.desc = some sig → argsL.length = sig.parameters.length) (hy : y.cls ≠ "java/lang/invoke/MethodHandle" ∧ y.cls ≠ "java/lang/invoke/VarHandle")
    (hf : rm.frames + 1 ≤ R.frames) (hl : (rest.map fun v => v.category).sum + (maxL + 11) + rm.locals ≤ R.locals) (hc : cells + rm.cells ≤ R.cells) (hs : slots + rm.slots ≤ R.slots)
    (k : ∀ v T' h' L, Stand p l e R s m args below meth c T' (locs ++ L) (cells + rm.cells) (slots + rm.slots) → T'.heap = h' → Q' v h' L → Ends p e below s Q rc rs T' (mkF m (pc + 5) Ls (v.toList ++ rest))) :
    Ends p e below s Q rc rs T (mkF m pc Ls st) := by
  subst has
  obtain ⟨cq, kq, qa, qb, qc⟩ := isOf hZ eT E
  obtain ⟨v, _, ⟨T', L', k', n'⟩, -, X', ⟨Lc, hQ, e1, e2, e3⟩, stp⟩ := X.interfaceBack hx (xi := y) (y := z) hown (mvT hZ w1) (mvT hZ w2) wf (mvT hZ w3) (mvT hZ w4) (mvT hZ wp) wu (mvT hZ wc) hy (backOf (W := (rest.map fun v => v.category).sum) (hM []) hZ w6 w5 hf hl) qa qb qc (g := mkF m pc Ls st) rfl hml (Steps.refl _) (argsL := argsL) (rest := rest) hlen hst (by show 2 * 0 + _ ≤ _; omega) hd (fun _ _ => ⟨rfl, eT, hc, hs⟩)
  dsimp only [Pt.U, Pt.locs, Pt.cells, Pt.slots] at X' e1 e2 e3 stp hQ
  subst e1 e2 e3
  exact goS stp (k v T' _ Lc X' rfl hQ)
theorem xx (O : Ext Z.heap h) (E : Ext h h') : Ext Z.heap h' := ⟨Nat.le_trans O.1 E.1, fun a c q => E.2 _ _ (O.2 _ _ q)⟩
theorem xk {ws : List Addr} (O : Ext Z.heap h) (K : Keep h h' ws) (q : ∀ x ∈ ws, Z.heap.size ≤ x) : Ext Z.heap h' := (Old.keep ⟨rfl, O⟩ K q).2
theorem xw {a : Addr} {sl : Nat} {v : Value} (O : Ext Z.heap h) (W : Wr h h' a sl v) (q : Z.heap.size ≤ a) : Ext Z.heap h' := (Old.wr ⟨rfl, O⟩ W q).2
theorem ke (E : Ext h h') : Keep h h' [] := (Keep.refl h []).ext E
theorem ek (K : Keep h h' []) : Ext h h' := ⟨K.1, fun a c q => K.2.1 a c q nin0⟩
end Own
theorem pn_0 : plainName "java/lang/StringUTF16" = true := by first | (simp [plainName, overriddenIn]; done) | decide +kernel
theorem d_jdk_52_method_21_0 : decode jdk_52_method_21_code 0 = .ok (.iconst 0, 1) := by decide +kernel
theorem d_jdk_52_method_21_1 : decode jdk_52_method_21_code 1 = .ok (.istore 5, 2) := by decide +kernel
theorem d_jdk_52_method_21_3 : decode jdk_52_method_21_code 3 = .ok (.iload 5, 2) := by decide +kernel
theorem d_jdk_52_method_21_5 : decode jdk_52_method_21_code 5 = .ok (.iload 4, 2) := by decide +kernel
theorem d_jdk_52_method_21_7 : decode jdk_52_method_21_code 7 = .ok (.if_icmp .ge 37, 3) := by decide +kernel
theorem d_jdk_52_method_21_10 : decode jdk_52_method_21_code 10 = .ok (.aload_n 0, 1) := by decide +kernel
theorem d_jdk_52_method_21_11 : decode jdk_52_method_21_code 11 = .ok (.iload_n 1, 1) := by decide +kernel
theorem d_jdk_52_method_21_12 : decode jdk_52_method_21_code 12 = .ok (.caload, 1) := by decide +kernel
theorem d_jdk_52_method_21_13 : decode jdk_52_method_21_code 13 = .ok (.istore 6, 2) := by decide +kernel
theorem d_jdk_52_method_21_15 : decode jdk_52_method_21_code 15 = .ok (.iload 6, 2) := by decide +kernel
theorem d_jdk_52_method_21_17 : decode jdk_52_method_21_code 17 = .ok (.sipush 255, 3) := by decide +kernel
theorem d_jdk_52_method_21_20 : decode jdk_52_method_21_code 20 = .ok (.if_icmp .le 6, 3) := by decide +kernel
theorem d_jdk_52_method_21_26 : decode jdk_52_method_21_code 26 = .ok (.aload_n 2, 1) := by decide +kernel
theorem d_jdk_52_method_21_27 : decode jdk_52_method_21_code 27 = .ok (.iload_n 3, 1) := by decide +kernel
theorem d_jdk_52_method_21_28 : decode jdk_52_method_21_code 28 = .ok (.iload 6, 2) := by decide +kernel
theorem d_jdk_52_method_21_30 : decode jdk_52_method_21_code 30 = .ok (.i2b, 1) := by decide +kernel
theorem d_jdk_52_method_21_31 : decode jdk_52_method_21_code 31 = .ok (.bastore, 1) := by decide +kernel
theorem d_jdk_52_method_21_32 : decode jdk_52_method_21_code 32 = .ok (.iinc 1 1, 3) := by decide +kernel
theorem d_jdk_52_method_21_35 : decode jdk_52_method_21_code 35 = .ok (.iinc 3 1, 3) := by decide +kernel
theorem d_jdk_52_method_21_38 : decode jdk_52_method_21_code 38 = .ok (.iinc 5 1, 3) := by decide +kernel
theorem d_jdk_52_method_21_41 : decode jdk_52_method_21_code 41 = .ok (.goto (-38), 3) := by decide +kernel
theorem d_jdk_52_method_21_44 : decode jdk_52_method_21_code 44 = .ok (.iload 4, 2) := by decide +kernel
theorem d_jdk_52_method_21_46 : decode jdk_52_method_21_code 46 = .ok (.ireturn, 1) := by decide +kernel
theorem d_jdk_52_method_16_0 : decode jdk_52_method_16_code 0 = .ok (.iload_n 2, 1) := by decide +kernel
theorem d_jdk_52_method_16_1 : decode jdk_52_method_16_code 1 = .ok (.newarray .byte, 2) := by decide +kernel
theorem d_jdk_52_method_16_3 : decode jdk_52_method_16_code 3 = .ok (.astore_n 3, 1) := by decide +kernel
theorem d_jdk_52_method_16_4 : decode jdk_52_method_16_code 4 = .ok (.aload_n 0, 1) := by decide +kernel
theorem d_jdk_52_method_16_5 : decode jdk_52_method_16_code 5 = .ok (.iload_n 1, 1) := by decide +kernel
theorem d_jdk_52_method_16_6 : decode jdk_52_method_16_code 6 = .ok (.aload_n 3, 1) := by decide +kernel
theorem d_jdk_52_method_16_7 : decode jdk_52_method_16_code 7 = .ok (.iconst 0, 1) := by decide +kernel
theorem d_jdk_52_method_16_8 : decode jdk_52_method_16_code 8 = .ok (.iload_n 2, 1) := by decide +kernel
theorem d_jdk_52_method_16_9 : decode jdk_52_method_16_code 9 = .ok (.invokestatic 115, 3) := by decide +kernel
theorem pd_1 : parseMethodDescriptor "([CI[BII)I" = some ⟨[(.array .char), .int, (.array .byte), .int, .int], some .int⟩ := by decide +kernel
theorem d_jdk_52_method_16_12 : decode jdk_52_method_16_code 12 = .ok (.istore 4, 2) := by decide +kernel
theorem d_jdk_52_method_16_14 : decode jdk_52_method_16_code 14 = .ok (.iload 4, 2) := by decide +kernel
theorem d_jdk_52_method_16_16 : decode jdk_52_method_16_code 16 = .ok (.iload_n 2, 1) := by decide +kernel
theorem d_jdk_52_method_16_17 : decode jdk_52_method_16_code 17 = .ok (.if_icmp .eq 40, 3) := by decide +kernel
theorem d_jdk_52_method_16_57 : decode jdk_52_method_16_code 57 = .ok (.aload_n 3, 1) := by decide +kernel
theorem d_jdk_52_method_16_58 : decode jdk_52_method_16_code 58 = .ok (.areturn, 1) := by decide +kernel
theorem d_jdk_52_method_15_0 : decode jdk_52_method_15_code 0 = .ok (.iload_n 1, 1) := by decide +kernel
theorem d_jdk_52_method_15_1 : decode jdk_52_method_15_code 1 = .ok (.aload_n 0, 1) := by decide +kernel
theorem d_jdk_52_method_15_2 : decode jdk_52_method_15_code 2 = .ok (.arraylength, 1) := by decide +kernel
theorem d_jdk_52_method_15_3 : decode jdk_52_method_15_code 3 = .ok (.isub, 1) := by decide +kernel
theorem d_jdk_52_method_15_4 : decode jdk_52_method_15_code 4 = .ok (.bipush 31, 2) := by decide +kernel
theorem d_jdk_52_method_15_6 : decode jdk_52_method_15_code 6 = .ok (.iushr, 1) := by decide +kernel
theorem d_jdk_52_method_15_7 : decode jdk_52_method_15_code 7 = .ok (.i2b, 1) := by decide +kernel
theorem d_jdk_52_method_15_8 : decode jdk_52_method_15_code 8 = .ok (.ireturn, 1) := by decide +kernel
theorem pn_2 : plainName "java/lang/String" = true := by first | (simp [plainName, overriddenIn]; done) | decide +kernel
theorem d_jdk_42_method_149_0 : decode jdk_42_method_149_code 0 = .ok (.aload_n 0, 1) := by decide +kernel
theorem d_jdk_42_method_149_1 : decode jdk_42_method_149_code 1 = .ok (.invokespecial 1, 3) := by decide +kernel
theorem d_jdk_42_method_149_4 : decode jdk_42_method_149_code 4 = .ok (.iload_n 3, 1) := by decide +kernel
theorem d_jdk_42_method_149_5 : decode jdk_42_method_149_code 5 = .ok (.ifCond .ne 22, 3) := by decide +kernel
theorem d_jdk_42_method_149_27 : decode jdk_42_method_149_code 27 = .ok (.getstatic 38, 3) := by decide +kernel
theorem d_jdk_42_method_149_30 : decode jdk_42_method_149_code 30 = .ok (.ifCond .eq 28, 3) := by decide +kernel
theorem d_jdk_42_method_149_33 : decode jdk_42_method_149_code 33 = .ok (.aload_n 1, 1) := by decide +kernel
theorem d_jdk_42_method_149_34 : decode jdk_42_method_149_code 34 = .ok (.iload_n 2, 1) := by decide +kernel
theorem d_jdk_42_method_149_35 : decode jdk_42_method_149_code 35 = .ok (.iload_n 3, 1) := by decide +kernel
theorem d_jdk_42_method_149_36 : decode jdk_42_method_149_code 36 = .ok (.invokestatic 177, 3) := by decide +kernel
theorem pd_3 : parseMethodDescriptor "([CII)[B" = some ⟨[(.array .char), .int, .int], some (.array .byte)⟩ := by decide +kernel
theorem d_jdk_42_method_149_39 : decode jdk_42_method_149_code 39 = .ok (.astore 5, 2) := by decide +kernel
theorem d_jdk_42_method_149_41 : decode jdk_42_method_149_code 41 = .ok (.aload_n 0, 1) := by decide +kernel
theorem d_jdk_42_method_149_42 : decode jdk_42_method_149_code 42 = .ok (.aload 5, 2) := by decide +kernel
theorem d_jdk_42_method_149_44 : decode jdk_42_method_149_code 44 = .ok (.iload_n 3, 1) := by decide +kernel
theorem d_jdk_42_method_149_45 : decode jdk_42_method_149_code 45 = .ok (.invokestatic 47, 3) := by decide +kernel
theorem pd_4 : parseMethodDescriptor "([BI)B" = some ⟨[(.array .byte), .int], some .byte⟩ := by decide +kernel
theorem d_jdk_42_method_149_48 : decode jdk_42_method_149_code 48 = .ok (.putfield 15, 3) := by decide +kernel
theorem d_jdk_42_method_149_51 : decode jdk_42_method_149_code 51 = .ok (.aload_n 0, 1) := by decide +kernel
theorem d_jdk_42_method_149_52 : decode jdk_42_method_149_code 52 = .ok (.aload 5, 2) := by decide +kernel
theorem d_jdk_42_method_149_54 : decode jdk_42_method_149_code 54 = .ok (.putfield 9, 3) := by decide +kernel
theorem d_jdk_42_method_149_57 : decode jdk_42_method_149_code 57 = .ok (.return_, 1) := by decide +kernel
theorem d_jdk_42_method_3_0 : decode jdk_42_method_3_code 0 = .ok (.aload_n 0, 1) := by decide +kernel
theorem d_jdk_42_method_3_1 : decode jdk_42_method_3_code 1 = .ok (.aload_n 1, 1) := by decide +kernel
theorem d_jdk_42_method_3_2 : decode jdk_42_method_3_code 2 = .ok (.iconst 0, 1) := by decide +kernel
theorem d_jdk_42_method_3_3 : decode jdk_42_method_3_code 3 = .ok (.aload_n 1, 1) := by decide +kernel
theorem d_jdk_42_method_3_4 : decode jdk_42_method_3_code 4 = .ok (.arraylength, 1) := by decide +kernel
theorem d_jdk_42_method_3_5 : decode jdk_42_method_3_code 5 = .ok (.aconst_null, 1) := by decide +kernel
theorem d_jdk_42_method_3_6 : decode jdk_42_method_3_code 6 = .ok (.invokespecial 27, 3) := by decide +kernel
theorem pd_5 : parseMethodDescriptor "([CIILjava/lang/Void;)V" = some ⟨[(.array .char), .int, .int, (.object "java/lang/Void")], none⟩ := by decide +kernel
theorem d_jdk_42_method_3_9 : decode jdk_42_method_3_code 9 = .ok (.return_, 1) := by decide +kernel
theorem pn_6 : plainName "java/lang/StringLatin1" = true := by first | (simp [plainName, overriddenIn]; done) | decide +kernel
theorem d_jdk_43_method_13_0 : decode jdk_43_method_13_code 0 = .ok (.aload_n 0, 1) := by decide +kernel
theorem d_jdk_43_method_13_1 : decode jdk_43_method_13_code 1 = .ok (.arraylength, 1) := by decide +kernel
theorem d_jdk_43_method_13_2 : decode jdk_43_method_13_code 2 = .ok (.aload_n 1, 1) := by decide +kernel
theorem d_jdk_43_method_13_3 : decode jdk_43_method_13_code 3 = .ok (.arraylength, 1) := by decide +kernel
theorem d_jdk_43_method_13_4 : decode jdk_43_method_13_code 4 = .ok (.if_icmp .ne 30, 3) := by decide +kernel
theorem d_jdk_43_method_13_7 : decode jdk_43_method_13_code 7 = .ok (.iconst 0, 1) := by decide +kernel
theorem d_jdk_43_method_13_8 : decode jdk_43_method_13_code 8 = .ok (.istore_n 2, 1) := by decide +kernel
theorem d_jdk_43_method_13_9 : decode jdk_43_method_13_code 9 = .ok (.iload_n 2, 1) := by decide +kernel
theorem d_jdk_43_method_13_10 : decode jdk_43_method_13_code 10 = .ok (.aload_n 0, 1) := by decide +kernel
theorem d_jdk_43_method_13_11 : decode jdk_43_method_13_code 11 = .ok (.arraylength, 1) := by decide +kernel
theorem d_jdk_43_method_13_12 : decode jdk_43_method_13_code 12 = .ok (.if_icmp .ge 20, 3) := by decide +kernel
theorem d_jdk_43_method_13_15 : decode jdk_43_method_13_code 15 = .ok (.aload_n 0, 1) := by decide +kernel
theorem d_jdk_43_method_13_16 : decode jdk_43_method_13_code 16 = .ok (.iload_n 2, 1) := by decide +kernel
theorem d_jdk_43_method_13_17 : decode jdk_43_method_13_code 17 = .ok (.baload, 1) := by decide +kernel
theorem d_jdk_43_method_13_18 : decode jdk_43_method_13_code 18 = .ok (.aload_n 1, 1) := by decide +kernel
theorem d_jdk_43_method_13_19 : decode jdk_43_method_13_code 19 = .ok (.iload_n 2, 1) := by decide +kernel
theorem d_jdk_43_method_13_20 : decode jdk_43_method_13_code 20 = .ok (.baload, 1) := by decide +kernel
theorem d_jdk_43_method_13_21 : decode jdk_43_method_13_code 21 = .ok (.if_icmp .eq 5, 3) := by decide +kernel
theorem d_jdk_43_method_13_26 : decode jdk_43_method_13_code 26 = .ok (.iinc 2 1, 3) := by decide +kernel
theorem d_jdk_43_method_13_29 : decode jdk_43_method_13_code 29 = .ok (.goto (-20), 3) := by decide +kernel
theorem d_jdk_43_method_13_32 : decode jdk_43_method_13_code 32 = .ok (.iconst 1, 1) := by decide +kernel
theorem d_jdk_43_method_13_33 : decode jdk_43_method_13_code 33 = .ok (.ireturn, 1) := by decide +kernel
theorem d_jdk_43_method_13_24 : decode jdk_43_method_13_code 24 = .ok (.iconst 0, 1) := by decide +kernel
theorem d_jdk_43_method_13_25 : decode jdk_43_method_13_code 25 = .ok (.ireturn, 1) := by decide +kernel
theorem d_jdk_42_method_66_0 : decode jdk_42_method_66_code 0 = .ok (.aload_n 0, 1) := by decide +kernel
theorem d_jdk_42_method_66_1 : decode jdk_42_method_66_code 1 = .ok (.aload_n 1, 1) := by decide +kernel
theorem d_jdk_42_method_66_2 : decode jdk_42_method_66_code 2 = .ok (.if_acmp .ne 5, 3) := by decide +kernel
theorem d_jdk_42_method_66_7 : decode jdk_42_method_66_code 7 = .ok (.aload_n 1, 1) := by decide +kernel
theorem d_jdk_42_method_66_8 : decode jdk_42_method_66_code 8 = .ok (.instanceof 10, 3) := by decide +kernel
theorem d_jdk_42_method_66_11 : decode jdk_42_method_66_code 11 = .ok (.ifCond .eq 43, 3) := by decide +kernel
theorem d_jdk_42_method_66_14 : decode jdk_42_method_66_code 14 = .ok (.aload_n 1, 1) := by decide +kernel
theorem d_jdk_42_method_66_15 : decode jdk_42_method_66_code 15 = .ok (.checkcast 10, 3) := by decide +kernel
theorem d_jdk_42_method_66_18 : decode jdk_42_method_66_code 18 = .ok (.astore_n 2, 1) := by decide +kernel
theorem d_jdk_42_method_66_19 : decode jdk_42_method_66_code 19 = .ok (.getstatic 38, 3) := by decide +kernel
theorem d_jdk_42_method_66_22 : decode jdk_42_method_66_code 22 = .ok (.ifCond .eq 14, 3) := by decide +kernel
theorem d_jdk_42_method_66_25 : decode jdk_42_method_66_code 25 = .ok (.aload_n 0, 1) := by decide +kernel
theorem d_jdk_42_method_66_26 : decode jdk_42_method_66_code 26 = .ok (.getfield 15, 3) := by decide +kernel
theorem d_jdk_42_method_66_29 : decode jdk_42_method_66_code 29 = .ok (.aload_n 2, 1) := by decide +kernel
theorem d_jdk_42_method_66_30 : decode jdk_42_method_66_code 30 = .ok (.getfield 15, 3) := by decide +kernel
theorem d_jdk_42_method_66_33 : decode jdk_42_method_66_code 33 = .ok (.if_icmp .ne 21, 3) := by decide +kernel
theorem d_jdk_42_method_66_36 : decode jdk_42_method_66_code 36 = .ok (.aload_n 0, 1) := by decide +kernel
theorem d_jdk_42_method_66_37 : decode jdk_42_method_66_code 37 = .ok (.getfield 9, 3) := by decide +kernel
theorem d_jdk_42_method_66_40 : decode jdk_42_method_66_code 40 = .ok (.aload_n 2, 1) := by decide +kernel
theorem d_jdk_42_method_66_41 : decode jdk_42_method_66_code 41 = .ok (.getfield 9, 3) := by decide +kernel
theorem d_jdk_42_method_66_44 : decode jdk_42_method_66_code 44 = .ok (.invokestatic 541, 3) := by decide +kernel
theorem pd_7 : parseMethodDescriptor "([B[B)Z" = some ⟨[(.array .byte), (.array .byte)], some .boolean⟩ := by decide +kernel
theorem d_jdk_42_method_66_47 : decode jdk_42_method_66_code 47 = .ok (.ifCond .eq 7, 3) := by decide +kernel
theorem d_jdk_42_method_66_54 : decode jdk_42_method_66_code 54 = .ok (.iconst 0, 1) := by decide +kernel
theorem d_jdk_42_method_66_55 : decode jdk_42_method_66_code 55 = .ok (.ireturn, 1) := by decide +kernel
theorem d_jdk_42_method_66_50 : decode jdk_42_method_66_code 50 = .ok (.iconst 1, 1) := by decide +kernel
theorem d_jdk_42_method_66_51 : decode jdk_42_method_66_code 51 = .ok (.goto 4, 3) := by decide +kernel
theorem pn_8 : plainName "com/example/scopa/scopa/schema/DeleteAction" = true := by first | (simp [plainName, overriddenIn]; done) | decide +kernel
theorem d_prog_10_method_1_0 : decode prog_10_method_1_code 0 = .ok (.getstatic 19, 3) := by decide +kernel
theorem d_prog_10_method_1_3 : decode prog_10_method_1_code 3 = .ok (.invokevirtual 23, 3) := by decide +kernel
theorem d_prog_10_method_1_6 : decode prog_10_method_1_code 6 = .ok (.checkcast 24, 3) := by decide +kernel
theorem d_prog_10_method_1_9 : decode prog_10_method_1_code 9 = .ok (.areturn, 1) := by decide +kernel
theorem d_prog_10_method_4_0 : decode prog_10_method_4_code 0 = .ok (.invokestatic 46, 3) := by decide +kernel
theorem pd_9 : parseMethodDescriptor "()[Lcom/example/scopa/scopa/schema/DeleteAction;" = some ⟨[], some (.array (.object "com/example/scopa/scopa/schema/DeleteAction"))⟩ := by decide +kernel
theorem d_prog_10_method_4_3 : decode prog_10_method_4_code 3 = .ok (.astore_n 1, 1) := by decide +kernel
theorem d_prog_10_method_4_4 : decode prog_10_method_4_code 4 = .ok (.aload_n 1, 1) := by decide +kernel
theorem d_prog_10_method_4_5 : decode prog_10_method_4_code 5 = .ok (.arraylength, 1) := by decide +kernel
theorem d_prog_10_method_4_6 : decode prog_10_method_4_code 6 = .ok (.istore_n 2, 1) := by decide +kernel
theorem d_prog_10_method_4_7 : decode prog_10_method_4_code 7 = .ok (.iconst 0, 1) := by decide +kernel
theorem d_prog_10_method_4_8 : decode prog_10_method_4_code 8 = .ok (.istore_n 3, 1) := by decide +kernel
theorem d_prog_10_method_4_9 : decode prog_10_method_4_code 9 = .ok (.iload_n 3, 1) := by decide +kernel
theorem d_prog_10_method_4_10 : decode prog_10_method_4_code 10 = .ok (.iload_n 2, 1) := by decide +kernel
theorem d_prog_10_method_4_11 : decode prog_10_method_4_code 11 = .ok (.if_icmp .ge 29, 3) := by decide +kernel
theorem d_prog_10_method_4_14 : decode prog_10_method_4_code 14 = .ok (.aload_n 1, 1) := by decide +kernel
theorem d_prog_10_method_4_15 : decode prog_10_method_4_code 15 = .ok (.iload_n 3, 1) := by decide +kernel
theorem d_prog_10_method_4_16 : decode prog_10_method_4_code 16 = .ok (.aaload, 1) := by decide +kernel
theorem d_prog_10_method_4_17 : decode prog_10_method_4_code 17 = .ok (.astore 4, 2) := by decide +kernel
theorem d_prog_10_method_4_19 : decode prog_10_method_4_code 19 = .ok (.aload 4, 2) := by decide +kernel
theorem d_prog_10_method_4_21 : decode prog_10_method_4_code 21 = .ok (.getfield 38, 3) := by decide +kernel
theorem d_prog_10_method_4_24 : decode prog_10_method_4_code 24 = .ok (.aload_n 0, 1) := by decide +kernel
theorem d_prog_10_method_4_25 : decode prog_10_method_4_code 25 = .ok (.invokevirtual 50, 3) := by decide +kernel
theorem pd_10 : parseMethodDescriptor "(Ljava/lang/Object;)Z" = some ⟨[(.object "java/lang/Object")], some .boolean⟩ := by decide +kernel
theorem d_prog_10_method_4_28 : decode prog_10_method_4_code 28 = .ok (.ifCond .eq 6, 3) := by decide +kernel
theorem d_prog_10_method_4_31 : decode prog_10_method_4_code 31 = .ok (.aload 4, 2) := by decide +kernel
theorem d_prog_10_method_4_33 : decode prog_10_method_4_code 33 = .ok (.areturn, 1) := by decide +kernel
theorem d_prog_10_method_4_34 : decode prog_10_method_4_code 34 = .ok (.iinc 3 1, 3) := by decide +kernel
theorem d_prog_10_method_4_37 : decode prog_10_method_4_code 37 = .ok (.goto (-28), 3) := by decide +kernel
theorem d_prog_10_method_5_0 : decode prog_10_method_5_code 0 = .ok (.aload_n 0, 1) := by decide +kernel
theorem d_prog_10_method_5_1 : decode prog_10_method_5_code 1 = .ok (.getfield 42, 3) := by decide +kernel
theorem d_prog_10_method_5_4 : decode prog_10_method_5_code 4 = .ok (.areturn, 1) := by decide +kernel
theorem pn_11 : plainName "com/example/scopa/scopa/schema/DeleteActionFromCatalogCodePinLaw" = true := by first | (simp [plainName, overriddenIn]; done) | decide +kernel
theorem pd_12 : parseMethodDescriptor "([C)V" = some ⟨[(.array .char)], none⟩ := by decide +kernel
theorem pd_13 : parseMethodDescriptor "(Ljava/lang/String;)Lcom/example/scopa/scopa/schema/DeleteAction;" = some ⟨[(.object "java/lang/String")], some (.object "com/example/scopa/scopa/schema/DeleteAction")⟩ := by decide +kernel
theorem pd_14 : parseMethodDescriptor "()Lcom/example/scopa/scopa/schema/DeletionRule;" = some ⟨[], some (.object "com/example/scopa/scopa/schema/DeletionRule")⟩ := by decide +kernel
theorem own_len {args : Array Value} {Z : State} {t : Term} {a : Addr} {cl : Cell} {ty : FieldType} {z : Int32} (ht : t.eval args Z none [] Z = some (.ref a)) (A : Arr Z Z.heap a cl ty) (e : (Term.length t).eval args Z none [] Z = some (.int z)) : cl.slots.size < 2 ^ 31 ∧ cl.slots.size.toInt32 = z := by
  have hA := A.fin (Vm.Alike.refl _)
  by_cases hn : cl.slots.size < 2 ^ 31
  · exact ⟨hn, Value.int.inj (Option.some.inj ((len_f ht hA hn).symm.trans e))⟩
  · exfalso
    simp [Term.eval, ht, hA, hn] at e
theorem own_idx {args : Array Value} {Z : State} {j : Int32} (hj : ¬ j < 0) : (Term.sub (.index 0) (.int 128)).eval args Z none [j.toNatClampNeg] Z = some (.int (j - 128)) := by
  have e := idx_at (args := args) (first := Z) (s := Z) (o := none) hj
  simp only [Term.eval] at e ⊢
  simp [e, (back32 hj).1]
theorem own_eqr {args : Array Value} {Z : State} {X F : Term} {y : Addr} (hF : F.eval args Z none [] Z = some (.ref y)) (h : (Jvm.Cond.eq X F).value args Z none Z [] = some true) : X.eval args Z none [] Z = some (.ref y) := by
  obtain ⟨x, y', e1, e2, k1, k2⟩ := cmp_v (Or.inl h)
  cases hF.symm.trans e2
  have k3 : x.isRef = true := k2.2
  exact e1.trans (congrArg some (gotT (eq_R e1 hF k3 rfl) h))
theorem own_el {args : Array Value} {Z : State} {t : Term} {a : Addr} {cl : Cell} {ty : FieldType} {v : Value} {j : Int32} {i : Nat} (ht : t.eval args Z none [] Z = some (.ref a)) (A : Arr Z Z.heap a cl ty) (h : (Term.elem t (.int j)).eval args Z none [] Z = some v) (hi : j.toNatClampNeg = i) : cl.slots[i]? = some v := by
  subst hi
  exact (elem_in h ht (Term.int_eval j) A.1).2
theorem own_nb (x : Int32) : nar .byte x.toInt8.toInt32 = x.toInt8.toInt32 := by simp [nar]
theorem own_ch (x : Int32) : ¬ (255 : Int32) < (x &&& 255).toUInt32.toUInt16.toUInt32.toInt32 ∧ ¬ (x &&& 255).toUInt32.toUInt16.toUInt32.toInt32 < 0 := by
  have e1 : (255 : Int32).toInt = 255 := by decide
  have e2 : (0 : Int32).toInt = 0 := by decide
  have q := c_and x 255 (by decide)
  rw [i2c_mask]
  simp only [Int32.lt_iff_toInt_lt, e1, e2] at *
  omega
theorem own_nc (x : Int32) : nar .char x.toUInt32.toUInt16.toUInt32.toInt32 = x.toUInt32.toUInt16.toUInt32.toInt32 := by simp only [nar, UInt32.toUInt32_toInt32, UInt16.toUInt16_toUInt32]
theorem own_01 {z : Int32} (h : z = 0 ∨ z = 1) (g : ¬ z = 0) : z = 1 := h.resolve_left g
set_option maxRecDepth 65536 in
set_option maxHeartbeats 40000000 in
theorem rm_cmp5_1 {l : Launch} {Z : State} {a0 : Array Value} (hw : ∀ d ∈ tables_1, d.before a0 Z = true) (aC aB : Addr) (kC kB : ClassId) (c0 : Int32)  (h0 : Heap) (O0 : Ext Z.heap h0) (f0 : Z.heap.size ≤ aB) (ne0 : aC ≠ aB) (VC : Arv Z h0 aC kC .char (1 : Int32) [(.int c0)] (.int 0)) (VB : Arv Z h0 aB kB .byte (1 : Int32) [(.int (0 : Int32))] (.int 0)) (l0 : ¬ (255 : Int32) < c0) :
    Con l (⟨"java/lang/StringUTF16", "compress", "([CI[BII)I"⟩ : MethodName) jdk_52_method_21_code 7 (some .int) ({ frames := 0, cells := 0, slots := 0, locals := 0 } : Room) Z #[(.ref aC), (.int (0 : Int32)), (.ref aB), (.int (0 : Int32)), (.int (1 : Int32))] h0 (fun v h L => v = some (.int (1 : Int32)) ∧ Fr Z.heap.size L ∧ Keep h0 h [aB] ∧ Arv Z h aB kB .byte (1 : Int32) [(.int c0.toInt8.toInt32)] (.int 0)) := by
  refine Con.of (plainFor_of_name pn_0) (Ls := #[.val (.ref aC), .val (.int (0 : Int32)), .val (.ref aB), .val (.int (0 : Int32)), .val (.int (1 : Int32)), .unset, .unset]) (fun m => by first | rfl | (simp [entryFrame, mkF, argsToLocals, Value.category]; done)) ?_
  intro p e s m below meth c T0 X0 hx hZ hby hml hown hnm hret hlk e0
  refine go (fun _ => XT.iconstV X0.here hx rfl (0 : Int32) (hb hby d_jdk_52_method_21_0) (by decide)) ?_
  show Ends p e below s _ _ _ T0 (mkF m 1 #[.val (.ref aC), .val (.int (0 : Int32)), .val (.ref aB), .val (.int (0 : Int32)), .val (.int (1 : Int32)), .unset, .unset] [(.int (0 : Int32))])
  refine go (fun _ => XS.istore X0.here hx rfl (hb hby d_jdk_52_method_21_1) rfl (l' := #[.val (.ref aC), .val (.int (0 : Int32)), .val (.ref aB), .val (.int (0 : Int32)), .val (.int (1 : Int32)), .val (.int (0 : Int32)), .unset]) rfl) ?_
  show Ends p e below s _ _ _ T0 (mkF m 3 #[.val (.ref aC), .val (.int (0 : Int32)), .val (.ref aB), .val (.int (0 : Int32)), .val (.int (1 : Int32)), .val (.int (0 : Int32)), .unset] [])
  refine go (fun _ => XS.iload X0.here hx rfl (hb hby d_jdk_52_method_21_3) rfl) ?_
  show Ends p e below s _ _ _ T0 (mkF m 5 #[.val (.ref aC), .val (.int (0 : Int32)), .val (.ref aB), .val (.int (0 : Int32)), .val (.int (1 : Int32)), .val (.int (0 : Int32)), .unset] [(.int (0 : Int32))])
  refine go (fun _ => XS.iload X0.here hx rfl (hb hby d_jdk_52_method_21_5) rfl) ?_
  show Ends p e below s _ _ _ T0 (mkF m 7 #[.val (.ref aC), .val (.int (0 : Int32)), .val (.ref aB), .val (.int (0 : Int32)), .val (.int (1 : Int32)), .val (.int (0 : Int32)), .unset] [(.int (1 : Int32)), (.int (0 : Int32))])
  refine go (fun _ => XS.icmpNo X0.here hx rfl (hb hby d_jdk_52_method_21_7) rfl (XT.ii_ge_f ((by decide) : (0 : Int32) < (1 : Int32)))) ?_
  show Ends p e below s _ _ _ T0 (mkF m 10 #[.val (.ref aC), .val (.int (0 : Int32)), .val (.ref aB), .val (.int (0 : Int32)), .val (.int (1 : Int32)), .val (.int (0 : Int32)), .unset] [])
  refine go (fun _ => XS.aloadN X0.here hx rfl (hb hby d_jdk_52_method_21_10) rfl rfl) ?_
  show Ends p e below s _ _ _ T0 (mkF m 11 #[.val (.ref aC), .val (.int (0 : Int32)), .val (.ref aB), .val (.int (0 : Int32)), .val (.int (1 : Int32)), .val (.int (0 : Int32)), .unset] [(.ref aC)])
  refine go (fun _ => XS.iloadN X0.here hx rfl (hb hby d_jdk_52_method_21_11) rfl) ?_
  show Ends p e below s _ _ _ T0 (mkF m 12 #[.val (.ref aC), .val (.int (0 : Int32)), .val (.ref aB), .val (.int (0 : Int32)), .val (.int (1 : Int32)), .val (.int (0 : Int32)), .unset] [(.int (0 : Int32)), (.ref aC)])
  obtain ⟨c1, A1, -, S1, M1, H1, -⟩ := id VC
  have B1 := inb_of S1 (j := (0 : Int32)) (by decide)
  refine go (fun _ => X0.caload hx (j := (0 : Int32)) (v := (.int c0)) (by rw [e0]; exact A1.1) (State.isArrayOf_alike hZ.alike A1.2.1) A1.2.2 B1 (H1.at B1 rfl) (g := (mkF m 12 #[.val (.ref aC), .val (.int (0 : Int32)), .val (.ref aB), .val (.int (0 : Int32)), .val (.int (1 : Int32)), .val (.int (0 : Int32)), .unset] [(.int (0 : Int32)), (.ref aC)])) rfl rfl (hb hby d_jdk_52_method_21_12) _) ?_
  show Ends p e below s _ _ _ T0 (mkF m 13 #[.val (.ref aC), .val (.int (0 : Int32)), .val (.ref aB), .val (.int (0 : Int32)), .val (.int (1 : Int32)), .val (.int (0 : Int32)), .unset] [(.int c0)])
  refine go (fun _ => XS.istore X0.here hx rfl (hb hby d_jdk_52_method_21_13) rfl (l' := #[.val (.ref aC), .val (.int (0 : Int32)), .val (.ref aB), .val (.int (0 : Int32)), .val (.int (1 : Int32)), .val (.int (0 : Int32)), .val (.int c0)]) rfl) ?_
  show Ends p e below s _ _ _ T0 (mkF m 15 #[.val (.ref aC), .val (.int (0 : Int32)), .val (.ref aB), .val (.int (0 : Int32)), .val (.int (1 : Int32)), .val (.int (0 : Int32)), .val (.int c0)] [])
  refine go (fun _ => XS.iload X0.here hx rfl (hb hby d_jdk_52_method_21_15) rfl) ?_
  show Ends p e below s _ _ _ T0 (mkF m 17 #[.val (.ref aC), .val (.int (0 : Int32)), .val (.ref aB), .val (.int (0 : Int32)), .val (.int (1 : Int32)), .val (.int (0 : Int32)), .val (.int c0)] [(.int c0)])
  refine go (fun _ => XT.sipushV X0.here hx rfl (255 : Int32) (hb hby d_jdk_52_method_21_17) (by decide)) ?_
  show Ends p e below s _ _ _ T0 (mkF m 20 #[.val (.ref aC), .val (.int (0 : Int32)), .val (.ref aB), .val (.int (0 : Int32)), .val (.int (1 : Int32)), .val (.int (0 : Int32)), .val (.int c0)] [(.int (255 : Int32)), (.int c0)])
  refine go (fun _ => XS.icmpYes X0.here hx rfl (pc0 := 20) (pc' := 26) rfl (hb hby d_jdk_52_method_21_20) rfl (XT.ii_le_t l0) (by decide) (by decide)) ?_
  show Ends p e below s _ _ _ T0 (mkF m 26 #[.val (.ref aC), .val (.int (0 : Int32)), .val (.ref aB), .val (.int (0 : Int32)), .val (.int (1 : Int32)), .val (.int (0 : Int32)), .val (.int c0)] [])
  refine go (fun _ => XS.aloadN X0.here hx rfl (hb hby d_jdk_52_method_21_26) rfl rfl) ?_
  show Ends p e below s _ _ _ T0 (mkF m 27 #[.val (.ref aC), .val (.int (0 : Int32)), .val (.ref aB), .val (.int (0 : Int32)), .val (.int (1 : Int32)), .val (.int (0 : Int32)), .val (.int c0)] [(.ref aB)])
  refine go (fun _ => XS.iloadN X0.here hx rfl (hb hby d_jdk_52_method_21_27) rfl) ?_
  show Ends p e below s _ _ _ T0 (mkF m 28 #[.val (.ref aC), .val (.int (0 : Int32)), .val (.ref aB), .val (.int (0 : Int32)), .val (.int (1 : Int32)), .val (.int (0 : Int32)), .val (.int c0)] [(.int (0 : Int32)), (.ref aB)])
  refine go (fun _ => XS.iload X0.here hx rfl (hb hby d_jdk_52_method_21_28) rfl) ?_
  show Ends p e below s _ _ _ T0 (mkF m 30 #[.val (.ref aC), .val (.int (0 : Int32)), .val (.ref aB), .val (.int (0 : Int32)), .val (.int (1 : Int32)), .val (.int (0 : Int32)), .val (.int c0)] [(.int c0), (.int (0 : Int32)), (.ref aB)])
  refine go (fun _ => XT.i2b X0.here hx rfl (hb hby d_jdk_52_method_21_30) rfl) ?_
  show Ends p e below s _ _ _ T0 (mkF m 31 #[.val (.ref aC), .val (.int (0 : Int32)), .val (.ref aB), .val (.int (0 : Int32)), .val (.int (1 : Int32)), .val (.int (0 : Int32)), .val (.int c0)] [(.int c0.toInt8.toInt32), (.int (0 : Int32)), (.ref aB)])
  obtain ⟨c2, A2, q2, S2, M2, H2, G2⟩ := id VB
  obtain ⟨T2, h2, X2, e2, W2, s2⟩ := stB X0 hx hZ e0 A2 (j := (0 : Int32)) (inb_of S2 (by decide)) (g := (mkF m 31 #[.val (.ref aC), .val (.int (0 : Int32)), .val (.ref aB), .val (.int (0 : Int32)), .val (.int (1 : Int32)), .val (.int (0 : Int32)), .val (.int c0)] [(.int c0.toInt8.toInt32), (.int (0 : Int32)), (.ref aB)])) rfl rfl (hb hby d_jdk_52_method_21_31)
  have r2 : nar .byte c0.toInt8.toInt32 = c0.toInt8.toInt32 := own_nb _
  rw [r2] at W2
  have N2 := Fr.snoc X2 (Fr.nil _) f0
  have O3 : Ext Z.heap h2 := xw O0 W2 f0
  have V2 : Arv Z h2 aB kB .byte (1 : Int32) [(.int c0.toInt8.toInt32)] (.int 0) := Arv.set A2 q2 S2 M2 H2 G2 (by first | rfl | exact fits_nar_byte c0.toInt8.toInt32 | (rw [← r2]; exact fits_nar_byte c0.toInt8.toInt32)) W2 0 (by decide) (by decide)
  refine go s2 ?_
  show Ends p e below s _ _ _ T2 (mkF m 32 #[.val (.ref aC), .val (.int (0 : Int32)), .val (.ref aB), .val (.int (0 : Int32)), .val (.int (1 : Int32)), .val (.int (0 : Int32)), .val (.int c0)] [])
  refine go (fun _ => XT.iincV X2.here hx rfl (1 : Int32) (hb hby d_jdk_52_method_21_32) (by decide) rfl (l' := #[.val (.ref aC), .val (.int (1 : Int32)), .val (.ref aB), .val (.int (0 : Int32)), .val (.int (1 : Int32)), .val (.int (0 : Int32)), .val (.int c0)]) rfl) ?_
  show Ends p e below s _ _ _ T2 (mkF m 35 #[.val (.ref aC), .val (.int (1 : Int32)), .val (.ref aB), .val (.int (0 : Int32)), .val (.int (1 : Int32)), .val (.int (0 : Int32)), .val (.int c0)] [])
  refine go (fun _ => XT.iincV X2.here hx rfl (1 : Int32) (hb hby d_jdk_52_method_21_35) (by decide) rfl (l' := #[.val (.ref aC), .val (.int (1 : Int32)), .val (.ref aB), .val (.int (1 : Int32)), .val (.int (1 : Int32)), .val (.int (0 : Int32)), .val (.int c0)]) rfl) ?_
  show Ends p e below s _ _ _ T2 (mkF m 38 #[.val (.ref aC), .val (.int (1 : Int32)), .val (.ref aB), .val (.int (1 : Int32)), .val (.int (1 : Int32)), .val (.int (0 : Int32)), .val (.int c0)] [])
  refine go (fun _ => XT.iincV X2.here hx rfl (1 : Int32) (hb hby d_jdk_52_method_21_38) (by decide) rfl (l' := #[.val (.ref aC), .val (.int (1 : Int32)), .val (.ref aB), .val (.int (1 : Int32)), .val (.int (1 : Int32)), .val (.int (1 : Int32)), .val (.int c0)]) rfl) ?_
  show Ends p e below s _ _ _ T2 (mkF m 41 #[.val (.ref aC), .val (.int (1 : Int32)), .val (.ref aB), .val (.int (1 : Int32)), .val (.int (1 : Int32)), .val (.int (1 : Int32)), .val (.int c0)] [])
  refine go (fun _ => XS.goto X2.here hx rfl (pc0 := 41) (pc' := 3) rfl (hb hby d_jdk_52_method_21_41) (by decide) (by decide)) ?_
  show Ends p e below s _ _ _ T2 (mkF m 3 #[.val (.ref aC), .val (.int (1 : Int32)), .val (.ref aB), .val (.int (1 : Int32)), .val (.int (1 : Int32)), .val (.int (1 : Int32)), .val (.int c0)] [])
  refine go (fun _ => XS.iload X2.here hx rfl (hb hby d_jdk_52_method_21_3) rfl) ?_
  show Ends p e below s _ _ _ T2 (mkF m 5 #[.val (.ref aC), .val (.int (1 : Int32)), .val (.ref aB), .val (.int (1 : Int32)), .val (.int (1 : Int32)), .val (.int (1 : Int32)), .val (.int c0)] [(.int (1 : Int32))])
  refine go (fun _ => XS.iload X2.here hx rfl (hb hby d_jdk_52_method_21_5) rfl) ?_
  show Ends p e below s _ _ _ T2 (mkF m 7 #[.val (.ref aC), .val (.int (1 : Int32)), .val (.ref aB), .val (.int (1 : Int32)), .val (.int (1 : Int32)), .val (.int (1 : Int32)), .val (.int c0)] [(.int (1 : Int32)), (.int (1 : Int32))])
  refine go (fun _ => XS.icmpYes X2.here hx rfl (pc0 := 7) (pc' := 44) rfl (hb hby d_jdk_52_method_21_7) rfl (XT.ii_ge_t ((by decide) : ¬ ((1 : Int32) < (1 : Int32)))) (by decide) (by decide)) ?_
  show Ends p e below s _ _ _ T2 (mkF m 44 #[.val (.ref aC), .val (.int (1 : Int32)), .val (.ref aB), .val (.int (1 : Int32)), .val (.int (1 : Int32)), .val (.int (1 : Int32)), .val (.int c0)] [])
  refine go (fun _ => XS.iload X2.here hx rfl (hb hby d_jdk_52_method_21_44) rfl) ?_
  show Ends p e below s _ _ _ T2 (mkF m 46 #[.val (.ref aC), .val (.int (1 : Int32)), .val (.ref aB), .val (.int (1 : Int32)), .val (.int (1 : Int32)), .val (.int (1 : Int32)), .val (.int c0)] [(.int (1 : Int32))])
  have K4 : Keep h0 h2 [aB] := (Keep.wr (Keep.refl _ _) W2 (Or.inl (List.mem_of_getElem? (i := 0) rfl)))
  exact endI X2 hx hlk hret (hb hby d_jdk_52_method_21_46) e2 ⟨rfl, N2, K4, V2⟩ (by decide) (by decide)
set_option maxRecDepth 65536 in
set_option maxHeartbeats 40000000 in
theorem rm_cmp3_1 {l : Launch} {Z : State} {a0 : Array Value} (hw : ∀ d ∈ tables_1, d.before a0 Z = true) (aC : Addr) (kC : ClassId) (c0 : Int32)  (h0 : Heap) (O0 : Ext Z.heap h0) (VC : Arv Z h0 aC kC .char (1 : Int32) [(.int c0)] (.int 0)) (l0 : ¬ (255 : Int32) < c0) :
    Con l (⟨"java/lang/StringUTF16", "compress", "([CII)[B"⟩ : MethodName) jdk_52_method_16_code 6 (some (.array .byte)) ({ frames := 1, cells := 1, slots := 1, locals := 18 } : Room) Z #[(.ref aC), (.int (0 : Int32)), (.int (1 : Int32))] h0 (fun v h L => ∃ (b : Addr) (k : ClassId), v = some (.ref b) ∧ Fr Z.heap.size L ∧ Keep h0 h [] ∧ h0.size ≤ b ∧ Arv Z h b k .byte (1 : Int32) [(.int c0.toInt8.toInt32)] (.int 0)) := by
  refine Con.of (plainFor_of_name pn_0) (Ls := #[.val (.ref aC), .val (.int (0 : Int32)), .val (.int (1 : Int32)), .unset, .unset, .unset]) (fun m => by first | rfl | (simp [entryFrame, mkF, argsToLocals, Value.category]; done)) ?_
  intro p e s m below meth c T0 X0 hx hZ hby hml hown hnm hret hlk e0
  refine go (fun _ => XS.iloadN X0.here hx rfl (hb hby d_jdk_52_method_16_0) rfl) ?_
  show Ends p e below s _ _ _ T0 (mkF m 1 #[.val (.ref aC), .val (.int (0 : Int32)), .val (.int (1 : Int32)), .unset, .unset, .unset] [(.int (1 : Int32))])
  obtain ⟨T5, h5, k5, X5, e5, E5, A5, s5⟩ := newP X0 hx hZ (hw _ (List.mem_of_getElem? (i := 26) rfl)) e0 (g := (mkF m 1 #[.val (.ref aC), .val (.int (0 : Int32)), .val (.int (1 : Int32)), .unset, .unset, .unset] [(.int (1 : Int32))])) rfl (hb hby d_jdk_52_method_16_1) rfl (by decide) (cap := 1) (by decide) (by decide) (by decide) (by decide)
  obtain ⟨a5, g5⟩ : ∃ z : Addr, z = h0.size := ⟨_, rfl⟩
  have n6 : aC ≠ a5 := fun q => absurd (VC.lt) (by rw [q, g5]; exact Nat.lt_irrefl _)
  have f5 : Z.heap.size ≤ a5 := by rw [g5]; exact (O0).1
  have K7 : Keep h0 h0 [] := (Keep.refl _ _)
  have b5 : h0.size ≤ a5 := by rw [g5]; exact (K7).1
  rw [← g5] at A5 s5
  have O8 : Ext Z.heap h5 := xx O0 E5
  have V5 : Arv Z h5 a5 k5 .byte (1 : Int32) [(.int (0 : Int32))] (.int 0) := Arv.pad (Arv.new A5 (by decide)) (pad_rep [] _ 1)
  refine go s5 ?_
  show Ends p e below s _ _ _ T5 (mkF m 3 #[.val (.ref aC), .val (.int (0 : Int32)), .val (.int (1 : Int32)), .unset, .unset, .unset] [(.ref a5)])
  refine go (fun _ => XS.astoreN X5.here hx rfl (hb hby d_jdk_52_method_16_3) rfl rfl (l' := #[.val (.ref aC), .val (.int (0 : Int32)), .val (.int (1 : Int32)), .val (.ref a5), .unset, .unset]) rfl) ?_
  show Ends p e below s _ _ _ T5 (mkF m 4 #[.val (.ref aC), .val (.int (0 : Int32)), .val (.int (1 : Int32)), .val (.ref a5), .unset, .unset] [])
  refine go (fun _ => XS.aloadN X5.here hx rfl (hb hby d_jdk_52_method_16_4) rfl rfl) ?_
  show Ends p e below s _ _ _ T5 (mkF m 5 #[.val (.ref aC), .val (.int (0 : Int32)), .val (.int (1 : Int32)), .val (.ref a5), .unset, .unset] [(.ref aC)])
  refine go (fun _ => XS.iloadN X5.here hx rfl (hb hby d_jdk_52_method_16_5) rfl) ?_
  show Ends p e below s _ _ _ T5 (mkF m 6 #[.val (.ref aC), .val (.int (0 : Int32)), .val (.int (1 : Int32)), .val (.ref a5), .unset, .unset] [(.int (0 : Int32)), (.ref aC)])
  refine go (fun _ => XS.aloadN X5.here hx rfl (hb hby d_jdk_52_method_16_6) rfl rfl) ?_
  show Ends p e below s _ _ _ T5 (mkF m 7 #[.val (.ref aC), .val (.int (0 : Int32)), .val (.int (1 : Int32)), .val (.ref a5), .unset, .unset] [(.ref a5), (.int (0 : Int32)), (.ref aC)])
  refine go (fun _ => XT.iconstV X5.here hx rfl (0 : Int32) (hb hby d_jdk_52_method_16_7) (by decide)) ?_
  show Ends p e below s _ _ _ T5 (mkF m 8 #[.val (.ref aC), .val (.int (0 : Int32)), .val (.int (1 : Int32)), .val (.ref a5), .unset, .unset] [(.int (0 : Int32)), (.ref a5), (.int (0 : Int32)), (.ref aC)])
  refine go (fun _ => XS.iloadN X5.here hx rfl (hb hby d_jdk_52_method_16_8) rfl) ?_
  show Ends p e below s _ _ _ T5 (mkF m 9 #[.val (.ref aC), .val (.int (0 : Int32)), .val (.int (1 : Int32)), .val (.ref a5), .unset, .unset] [(.int (1 : Int32)), (.int (0 : Int32)), (.ref a5), (.int (0 : Int32)), (.ref aC)])
  have F9 := (Arv.ext VC E5)
  refine cStat X5 hx hZ hown (by rw [hml]; rfl) e5 (hw _ (List.mem_of_getElem? (i := 27) rfl)) (hw _ (List.mem_of_getElem? (i := 28) rfl)) (hw _ (List.mem_of_getElem? (i := 24) rfl)) (hw _ (List.mem_of_getElem? (i := 29) rfl)) [(.ref aC), (.int (0 : Int32)), (.ref a5), (.int (0 : Int32)), (.int (1 : Int32))] [] rfl (rm_cmp5_1 hw aC a5 kC k5 c0 _ O8 f5 n6 F9 V5 l0) (hb hby d_jdk_52_method_16_9) rfl (lenOf pd_1 rfl) (by decide) (by decide) (Nat.le_of_ble_eq_true rfl) (by decide) (by decide) ?_
  rintro v10 T10 h10 L10 X10 e10 ⟨rfl, N10, K10, V10⟩
  have N10a := Fr.app (Fr.nil _) N10
  have O11 : Ext Z.heap h10 := xk O8 K10 (allS f5 all0)
  show Ends p e below s _ _ _ T10 (mkF m 12 #[.val (.ref aC), .val (.int (0 : Int32)), .val (.int (1 : Int32)), .val (.ref a5), .unset, .unset] [(.int (1 : Int32))])
  refine go (fun _ => XS.istore X10.here hx rfl (hb hby d_jdk_52_method_16_12) rfl (l' := #[.val (.ref aC), .val (.int (0 : Int32)), .val (.int (1 : Int32)), .val (.ref a5), .val (.int (1 : Int32)), .unset]) rfl) ?_
  show Ends p e below s _ _ _ T10 (mkF m 14 #[.val (.ref aC), .val (.int (0 : Int32)), .val (.int (1 : Int32)), .val (.ref a5), .val (.int (1 : Int32)), .unset] [])
  refine go (fun _ => XS.iload X10.here hx rfl (hb hby d_jdk_52_method_16_14) rfl) ?_
  show Ends p e below s _ _ _ T10 (mkF m 16 #[.val (.ref aC), .val (.int (0 : Int32)), .val (.int (1 : Int32)), .val (.ref a5), .val (.int (1 : Int32)), .unset] [(.int (1 : Int32))])
  refine go (fun _ => XS.iloadN X10.here hx rfl (hb hby d_jdk_52_method_16_16) rfl) ?_
  show Ends p e below s _ _ _ T10 (mkF m 17 #[.val (.ref aC), .val (.int (0 : Int32)), .val (.int (1 : Int32)), .val (.ref a5), .val (.int (1 : Int32)), .unset] [(.int (1 : Int32)), (.int (1 : Int32))])
  refine go (fun _ => XS.icmpYes X10.here hx rfl (pc0 := 17) (pc' := 57) rfl (hb hby d_jdk_52_method_16_17) rfl (XT.ii_eq_t ((by decide) : (1 : Int32) = (1 : Int32))) (by decide) (by decide)) ?_
  show Ends p e below s _ _ _ T10 (mkF m 57 #[.val (.ref aC), .val (.int (0 : Int32)), .val (.int (1 : Int32)), .val (.ref a5), .val (.int (1 : Int32)), .unset] [])
  refine go (fun _ => XS.aloadN X10.here hx rfl (hb hby d_jdk_52_method_16_57) rfl rfl) ?_
  show Ends p e below s _ _ _ T10 (mkF m 58 #[.val (.ref aC), .val (.int (0 : Int32)), .val (.int (1 : Int32)), .val (.ref a5), .val (.int (1 : Int32)), .unset] [(.ref a5)])
  have K12 : Keep h0 h10 [] := (Keep.trans (Keep.ext K7 E5) K10 (allS (Or.inr b5) all0))
  exact endA X10 hx hlk hret rfl rfl (hb hby d_jdk_52_method_16_58) e10 ⟨a5, _, rfl, N10a, K12, b5, V10⟩ (by decide) (by decide)
set_option maxRecDepth 65536 in
set_option maxHeartbeats 40000000 in
theorem rm_coder_1 {l : Launch} {Z : State} {a0 : Array Value} (hw : ∀ d ∈ tables_1, d.before a0 Z = true) (aB : Addr) (kB : ClassId) (vs : List Value) (h0 : Heap) (VB : Arv Z h0 aB kB .byte (1 : Int32) vs (.int 0)) :
    Con l (⟨"java/lang/StringUTF16", "coderFromArrayLen", "([BI)B"⟩ : MethodName) jdk_52_method_15_code 2 (some .byte) ({ frames := 0, cells := 0, slots := 0, locals := 0 } : Room) Z #[(.ref aB), (.int (1 : Int32))] h0 (fun v h L => v = some (.int 0) ∧ Fr Z.heap.size L ∧ h0 = h) := by
  refine Con.of (plainFor_of_name pn_0) (Ls := #[.val (.ref aB), .val (.int (1 : Int32))]) (fun m => by first | rfl | (simp [entryFrame, mkF, argsToLocals, Value.category]; done)) ?_
  intro p e s m below meth c T0 X0 hx hZ hby hml hown hnm hret hlk e0
  refine go (fun _ => XS.iloadN X0.here hx rfl (hb hby d_jdk_52_method_15_0) rfl) ?_
  show Ends p e below s _ _ _ T0 (mkF m 1 #[.val (.ref aB), .val (.int (1 : Int32))] [(.int (1 : Int32))])
  refine go (fun _ => XS.aloadN X0.here hx rfl (hb hby d_jdk_52_method_15_1) rfl rfl) ?_
  show Ends p e below s _ _ _ T0 (mkF m 2 #[.val (.ref aB), .val (.int (1 : Int32))] [(.ref aB), (.int (1 : Int32))])
  obtain ⟨c13, A13, -, S13, M13, -⟩ := id VB
  refine go (fun _ => X0.arraylength hx (cell := c13) (by rw [e0]; exact A13.1) (State.isArrayOf_alike hZ.alike A13.2.1) (g := (mkF m 2 #[.val (.ref aB), .val (.int (1 : Int32))] [(.ref aB), (.int (1 : Int32))])) rfl rfl (hb hby d_jdk_52_method_15_2) _) ?_
  rw [len_of S13 M13]
  show Ends p e below s _ _ _ T0 (mkF m 3 #[.val (.ref aB), .val (.int (1 : Int32))] [(.int (1 : Int32)), (.int (1 : Int32))])
  refine go (fun _ => XS.isub X0.here hx rfl (hb hby d_jdk_52_method_15_3) rfl) ?_
  show Ends p e below s _ _ _ T0 (mkF m 4 #[.val (.ref aB), .val (.int (1 : Int32))] [(.int (0 : Int32))])
  refine go (fun _ => XT.bipushV X0.here hx rfl (31 : Int32) (hb hby d_jdk_52_method_15_4) (by decide)) ?_
  show Ends p e below s _ _ _ T0 (mkF m 6 #[.val (.ref aB), .val (.int (1 : Int32))] [(.int (31 : Int32)), (.int (0 : Int32))])
  refine go (fun _ => XT.iushr X0.here hx rfl (hb hby d_jdk_52_method_15_6) rfl) ?_
  show Ends p e below s _ _ _ T0 (mkF m 7 #[.val (.ref aB), .val (.int (1 : Int32))] [(.int (0 : Int32))])
  refine go (fun _ => XT.i2b X0.here hx rfl (hb hby d_jdk_52_method_15_7) rfl) ?_
  show Ends p e below s _ _ _ T0 (mkF m 8 #[.val (.ref aB), .val (.int (1 : Int32))] [(.int (0 : Int32))])
  exact endN X0 hx hlk hret (by simp) (hb hby d_jdk_52_method_15_8) e0 ⟨rfl, (Fr.nil _), rfl⟩ (by decide) (by decide)
set_option maxRecDepth 65536 in
set_option maxHeartbeats 40000000 in
theorem rm_new4_1 {l : Launch} {Z : State} {a0 : Array Value} (hw : ∀ d ∈ tables_1, d.before a0 Z = true) (a aC : Addr) (kC : ClassId) (c0 : Int32)  (h0 : Heap) (O0 : Ext Z.heap h0) (f0 : Z.heap.size ≤ a) (ne0 : a ≠ aC) (E0 : Exa Z h0 a "java/lang/String") (FV : Fld Z h0 a "java/lang/String" "value" "[B" .null) (FC : Fld Z h0 a "java/lang/String" "coder" "B" (.int 0)) (cz : Int32) (SCS : Sta Z Z.heap "java/lang/String" "COMPACT_STRINGS" "Z" (.int cz)) (hcz : ¬ cz = (0 : Int32)) (VC : Arv Z h0 aC kC .char (1 : Int32) [(.int c0)] (.int 0)) (l0 : ¬ (255 : Int32) < c0) :
    Con l (⟨"java/lang/String", "<init>", "([CIILjava/lang/Void;)V"⟩ : MethodName) jdk_42_method_149_code 6 none ({ frames := 2, cells := 1, slots := 1, locals := 35 } : Room) Z #[(.ref a), (.ref aC), (.int (0 : Int32)), (.int (1 : Int32)), .null] h0 (fun v h L => ∃ (b : Addr) (k : ClassId), v = none ∧ Fr Z.heap.size L ∧ Keep h0 h [a] ∧ h0.size ≤ b ∧ Fld Z h a "java/lang/String" "value" "[B" (.ref b) ∧ Fld Z h a "java/lang/String" "coder" "B" (.int 0) ∧ Arv Z h b k .byte (1 : Int32) [(.int c0.toInt8.toInt32)] (.int 0)) := by
  refine Con.of (plainFor_of_name pn_2) (Ls := #[.val (.ref a), .val (.ref aC), .val (.int (0 : Int32)), .val (.int (1 : Int32)), .val .null, .unset]) (fun m => by first | rfl | (simp [entryFrame, mkF, argsToLocals, Value.category]; done)) ?_
  intro p e s m below meth c T0 X0 hx hZ hby hml hown hnm hret hlk e0
  refine go (fun _ => XS.aloadN X0.here hx rfl (hb hby d_jdk_42_method_149_0) rfl rfl) ?_
  show Ends p e below s _ _ _ T0 (mkF m 1 #[.val (.ref a), .val (.ref aC), .val (.int (0 : Int32)), .val (.int (1 : Int32)), .val .null, .unset] [(.ref a)])
  obtain ⟨T14, X14, e14, s14⟩ := initO X0 hx hZ hown (hw _ (List.mem_of_getElem? (i := 18) rfl)) (hw _ (List.mem_of_getElem? (i := 19) rfl)) (hw _ (List.mem_of_getElem? (i := 20) rfl)) e0 (g := (mkF m 1 #[.val (.ref a), .val (.ref aC), .val (.int (0 : Int32)), .val (.int (1 : Int32)), .val .null, .unset] [(.ref a)])) rfl (by rw [hml]; rfl) rfl (hb hby d_jdk_42_method_149_1) (by decide) (W := 0) (by show 2 * 0 + _ ≤ _; exact Nat.le_of_eq rfl) (by decide)
  refine go s14 ?_
  show Ends p e below s _ _ _ T14 (mkF m 4 #[.val (.ref a), .val (.ref aC), .val (.int (0 : Int32)), .val (.int (1 : Int32)), .val .null, .unset] [])
  refine go (fun _ => XS.iloadN X14.here hx rfl (hb hby d_jdk_42_method_149_4) rfl) ?_
  show Ends p e below s _ _ _ T14 (mkF m 5 #[.val (.ref a), .val (.ref aC), .val (.int (0 : Int32)), .val (.int (1 : Int32)), .val .null, .unset] [(.int (1 : Int32))])
  refine go (fun _ => XS.ifYes X14.here hx rfl (pc0 := 5) (pc' := 27) rfl (hb hby d_jdk_42_method_149_5) rfl (XT.i0_ne_t ((by decide) : ¬ ((1 : Int32) = (0 : Int32)))) (by decide) (by decide)) ?_
  show Ends p e below s _ _ _ T14 (mkF m 27 #[.val (.ref a), .val (.ref aC), .val (.int (0 : Int32)), .val (.int (1 : Int32)), .val .null, .unset] [])
  obtain ⟨T15, X15, e15, s15⟩ := getS2 X14 hx hZ hown (host := "") (Or.inl (hw _ (List.mem_of_getElem? (i := 21) rfl))) Via.refl e14 (Sta.ext O0 SCS) (g := (mkF m 27 #[.val (.ref a), .val (.ref aC), .val (.int (0 : Int32)), .val (.int (1 : Int32)), .val .null, .unset] [])) rfl (hb hby d_jdk_42_method_149_27)
  refine go s15 ?_
  show Ends p e below s _ _ _ T15 (mkF m 30 #[.val (.ref a), .val (.ref aC), .val (.int (0 : Int32)), .val (.int (1 : Int32)), .val .null, .unset] [(.int cz)])
  refine go (fun _ => XS.ifNo X15.here hx rfl (hb hby d_jdk_42_method_149_30) rfl (XT.i0_eq_f hcz)) ?_
  show Ends p e below s _ _ _ T15 (mkF m 33 #[.val (.ref a), .val (.ref aC), .val (.int (0 : Int32)), .val (.int (1 : Int32)), .val .null, .unset] [])
  refine go (fun _ => XS.aloadN X15.here hx rfl (hb hby d_jdk_42_method_149_33) rfl rfl) ?_
  show Ends p e below s _ _ _ T15 (mkF m 34 #[.val (.ref a), .val (.ref aC), .val (.int (0 : Int32)), .val (.int (1 : Int32)), .val .null, .unset] [(.ref aC)])
  refine go (fun _ => XS.iloadN X15.here hx rfl (hb hby d_jdk_42_method_149_34) rfl) ?_
  show Ends p e below s _ _ _ T15 (mkF m 35 #[.val (.ref a), .val (.ref aC), .val (.int (0 : Int32)), .val (.int (1 : Int32)), .val .null, .unset] [(.int (0 : Int32)), (.ref aC)])
  refine go (fun _ => XS.iloadN X15.here hx rfl (hb hby d_jdk_42_method_149_35) rfl) ?_
  show Ends p e below s _ _ _ T15 (mkF m 36 #[.val (.ref a), .val (.ref aC), .val (.int (0 : Int32)), .val (.int (1 : Int32)), .val .null, .unset] [(.int (1 : Int32)), (.int (0 : Int32)), (.ref aC)])
  refine cStat X15 hx hZ hown (by rw [hml]; rfl) e15 (hw _ (List.mem_of_getElem? (i := 22) rfl)) (hw _ (List.mem_of_getElem? (i := 23) rfl)) (hw _ (List.mem_of_getElem? (i := 24) rfl)) (hw _ (List.mem_of_getElem? (i := 25) rfl)) [(.ref aC), (.int (0 : Int32)), (.int (1 : Int32))] [] rfl (rm_cmp3_1 hw aC kC c0 _ O0 VC l0) (hb hby d_jdk_42_method_149_36) rfl (lenOf pd_3 rfl) (by decide) (by decide) (Nat.le_of_ble_eq_true rfl) (by decide) (by decide) ?_
  rintro v16 T16 h16 L16 X16 e16 ⟨b16, k16, rfl, N16, K16, g16, V16⟩
  have N16a := Fr.app (Fr.nil _) N16
  have n17 : a ≠ b16 := Nat.ne_of_lt (Nat.lt_of_lt_of_le (E0.lt) g16)
  have n18 : aC ≠ b16 := Nat.ne_of_lt (Nat.lt_of_lt_of_le (VC.lt) g16)
  have f19 : Z.heap.size ≤ b16 := Nat.le_trans (O0).1 g16
  have K20 : Keep h0 h0 [a] := (Keep.refl _ _)
  have b19 : h0.size ≤ b16 := Nat.le_trans (K20).1 g16
  have O21 : Ext Z.heap h16 := xk O0 K16 all0
  show Ends p e below s _ _ _ T16 (mkF m 39 #[.val (.ref a), .val (.ref aC), .val (.int (0 : Int32)), .val (.int (1 : Int32)), .val .null, .unset] [(.ref b16)])
  refine go (fun _ => XS.astore X16.here hx rfl (hb hby d_jdk_42_method_149_39) rfl rfl (l' := #[.val (.ref a), .val (.ref aC), .val (.int (0 : Int32)), .val (.int (1 : Int32)), .val .null, .val (.ref b16)]) rfl) ?_
  show Ends p e below s _ _ _ T16 (mkF m 41 #[.val (.ref a), .val (.ref aC), .val (.int (0 : Int32)), .val (.int (1 : Int32)), .val .null, .val (.ref b16)] [])
  refine go (fun _ => XS.aloadN X16.here hx rfl (hb hby d_jdk_42_method_149_41) rfl rfl) ?_
  show Ends p e below s _ _ _ T16 (mkF m 42 #[.val (.ref a), .val (.ref aC), .val (.int (0 : Int32)), .val (.int (1 : Int32)), .val .null, .val (.ref b16)] [(.ref a)])
  refine go (fun _ => XS.aload X16.here hx rfl (hb hby d_jdk_42_method_149_42) rfl rfl) ?_
  show Ends p e below s _ _ _ T16 (mkF m 44 #[.val (.ref a), .val (.ref aC), .val (.int (0 : Int32)), .val (.int (1 : Int32)), .val .null, .val (.ref b16)] [(.ref b16), (.ref a)])
  refine go (fun _ => XS.iloadN X16.here hx rfl (hb hby d_jdk_42_method_149_44) rfl) ?_
  show Ends p e below s _ _ _ T16 (mkF m 45 #[.val (.ref a), .val (.ref aC), .val (.int (0 : Int32)), .val (.int (1 : Int32)), .val .null, .val (.ref b16)] [(.int (1 : Int32)), (.ref b16), (.ref a)])
  refine cStat X16 hx hZ hown (by rw [hml]; rfl) e16 (hw _ (List.mem_of_getElem? (i := 30) rfl)) (hw _ (List.mem_of_getElem? (i := 31) rfl)) (hw _ (List.mem_of_getElem? (i := 24) rfl)) (hw _ (List.mem_of_getElem? (i := 32) rfl)) [(.ref b16), (.int (1 : Int32))] [(.ref a)] rfl (rm_coder_1 hw b16 _ _ _ V16) (hb hby d_jdk_42_method_149_45) rfl (lenOf pd_4 rfl) (by decide) (by decide) (Nat.le_of_ble_eq_true rfl) (by decide) (by decide) ?_
  rintro v22 T22 h22 L22 X22 e22 ⟨rfl, N22, rfl⟩
  have N22a := Fr.app N16a N22
  show Ends p e below s _ _ _ T22 (mkF m 48 #[.val (.ref a), .val (.ref aC), .val (.int (0 : Int32)), .val (.int (1 : Int32)), .val .null, .val (.ref b16)] [(.int (0 : Int32)), (.ref a)])
  have F23 := (Exa.keep E0 K16)
  have F24 := (Fld.keep FC K16 nin0)
  obtain ⟨T25, h25, X25, e25, W25, s25⟩ := putF X22 hx hZ hown (host := "") (Or.inl (hw _ (List.mem_of_getElem? (i := 33) rfl))) Via.refl e22 F24 F23 (Or.inr ⟨(hw _ (List.mem_of_getElem? (i := 34) rfl)), rfl, hnm⟩) (hw _ (List.mem_of_getElem? (i := 9) rfl)) (ty := .byte) (by decide) rfl rfl (g := (mkF m 48 #[.val (.ref a), .val (.ref aC), .val (.int (0 : Int32)), .val (.int (1 : Int32)), .val .null, .val (.ref b16)] [(.int (0 : Int32)), (.ref a)])) rfl rfl (hb hby d_jdk_42_method_149_48)
  have N25 := Fr.snoc X25 N22a f0
  have O26 : Ext Z.heap h25 := xw O21 W25 f0
  refine go s25 ?_
  show Ends p e below s _ _ _ T25 (mkF m 51 #[.val (.ref a), .val (.ref aC), .val (.int (0 : Int32)), .val (.int (1 : Int32)), .val .null, .val (.ref b16)] [])
  refine go (fun _ => XS.aloadN X25.here hx rfl (hb hby d_jdk_42_method_149_51) rfl rfl) ?_
  show Ends p e below s _ _ _ T25 (mkF m 52 #[.val (.ref a), .val (.ref aC), .val (.int (0 : Int32)), .val (.int (1 : Int32)), .val .null, .val (.ref b16)] [(.ref a)])
  refine go (fun _ => XS.aload X25.here hx rfl (hb hby d_jdk_42_method_149_52) rfl rfl) ?_
  show Ends p e below s _ _ _ T25 (mkF m 54 #[.val (.ref a), .val (.ref aC), .val (.int (0 : Int32)), .val (.int (1 : Int32)), .val .null, .val (.ref b16)] [(.ref b16), (.ref a)])
  have F27 := (Exa.wr W25 F23)
  have F28 := (Fld.other W25 (Fld.keep FV K16 nin0) (Or.inr (slot_ne (a0 := a0) (Or.inr (hw _ (List.mem_of_getElem? (i := 36) rfl))) (Or.inr (hw _ (List.mem_of_getElem? (i := 34) rfl))) (by decide) (t := (.array .byte)) (t' := .byte) (by decide) (by decide))))
  obtain ⟨T29, h29, X29, e29, W29, s29⟩ := putF X25 hx hZ hown (host := "") (Or.inl (hw _ (List.mem_of_getElem? (i := 35) rfl))) Via.refl e25 F28 F27 (Or.inr ⟨(hw _ (List.mem_of_getElem? (i := 36) rfl)), rfl, hnm⟩) (hw _ (List.mem_of_getElem? (i := 9) rfl)) (ty := (.array .byte)) (by decide) rfl rfl (g := (mkF m 54 #[.val (.ref a), .val (.ref aC), .val (.int (0 : Int32)), .val (.int (1 : Int32)), .val .null, .val (.ref b16)] [(.ref b16), (.ref a)])) rfl rfl (hb hby d_jdk_42_method_149_54)
  have N29 := Fr.snoc X29 N25 f0
  have O30 : Ext Z.heap h29 := xw O26 W29 f0
  refine go s29 ?_
  show Ends p e below s _ _ _ T29 (mkF m 57 #[.val (.ref a), .val (.ref aC), .val (.int (0 : Int32)), .val (.int (1 : Int32)), .val .null, .val (.ref b16)] [])
  have K31 : Keep h0 h29 [a] := (Keep.wr (Keep.wr (Keep.trans K20 K16 all0) W25 (Or.inl (List.mem_of_getElem? (i := 0) rfl))) W29 (Or.inl (List.mem_of_getElem? (i := 0) rfl)))
  have F32 := (Fld.same W29 F28)
  have F33 := (Fld.other W29 (Fld.same W25 F24) (Or.inr (slot_ne (a0 := a0) (Or.inr (hw _ (List.mem_of_getElem? (i := 34) rfl))) (Or.inr (hw _ (List.mem_of_getElem? (i := 36) rfl))) (by decide) (t := .byte) (t' := (.array .byte)) (by decide) (by decide))))
  have F34 := (Arv.other (Arv.other V16 W25 (Ne.symm n17)) W29 (Ne.symm n17))
  exact endV X29 hx hlk hret (hb hby d_jdk_42_method_149_57) e29 ⟨b16, _, rfl, N29, K31, b19, F32, F33, F34⟩ (by decide) (by decide)
set_option maxRecDepth 65536 in
set_option maxHeartbeats 40000000 in
theorem rm_new1_1 {l : Launch} {Z : State} {a0 : Array Value} (hw : ∀ d ∈ tables_1, d.before a0 Z = true) (a aC : Addr) (kC : ClassId) (c0 : Int32)  (h0 : Heap) (O0 : Ext Z.heap h0) (f0 : Z.heap.size ≤ a) (ne0 : a ≠ aC) (E0 : Exa Z h0 a "java/lang/String") (FV : Fld Z h0 a "java/lang/String" "value" "[B" .null) (FC : Fld Z h0 a "java/lang/String" "coder" "B" (.int 0)) (cz : Int32) (SCS : Sta Z Z.heap "java/lang/String" "COMPACT_STRINGS" "Z" (.int cz)) (hcz : ¬ cz = (0 : Int32)) (VC : Arv Z h0 aC kC .char (1 : Int32) [(.int c0)] (.int 0)) (l0 : ¬ (255 : Int32) < c0) :
    Con l (⟨"java/lang/String", "<init>", "([C)V"⟩ : MethodName) jdk_42_method_3_code 2 none ({ frames := 3, cells := 1, slots := 1, locals := 52 } : Room) Z #[(.ref a), (.ref aC)] h0 (fun v h L => ∃ (b : Addr) (k : ClassId), v = none ∧ Fr Z.heap.size L ∧ Keep h0 h [a] ∧ h0.size ≤ b ∧ Fld Z h a "java/lang/String" "value" "[B" (.ref b) ∧ Fld Z h a "java/lang/String" "coder" "B" (.int 0) ∧ Arv Z h b k .byte (1 : Int32) [(.int c0.toInt8.toInt32)] (.int 0)) := by
  refine Con.of (plainFor_of_name pn_2) (Ls := #[.val (.ref a), .val (.ref aC)]) (fun m => by first | rfl | (simp [entryFrame, mkF, argsToLocals, Value.category]; done)) ?_
  intro p e s m below meth c T0 X0 hx hZ hby hml hown hnm hret hlk e0
  refine go (fun _ => XS.aloadN X0.here hx rfl (hb hby d_jdk_42_method_3_0) rfl rfl) ?_
  show Ends p e below s _ _ _ T0 (mkF m 1 #[.val (.ref a), .val (.ref aC)] [(.ref a)])
  refine go (fun _ => XS.aloadN X0.here hx rfl (hb hby d_jdk_42_method_3_1) rfl rfl) ?_
  show Ends p e below s _ _ _ T0 (mkF m 2 #[.val (.ref a), .val (.ref aC)] [(.ref aC), (.ref a)])
  refine go (fun _ => XT.iconstV X0.here hx rfl (0 : Int32) (hb hby d_jdk_42_method_3_2) (by decide)) ?_
  show Ends p e below s _ _ _ T0 (mkF m 3 #[.val (.ref a), .val (.ref aC)] [(.int (0 : Int32)), (.ref aC), (.ref a)])
  refine go (fun _ => XS.aloadN X0.here hx rfl (hb hby d_jdk_42_method_3_3) rfl rfl) ?_
  show Ends p e below s _ _ _ T0 (mkF m 4 #[.val (.ref a), .val (.ref aC)] [(.ref aC), (.int (0 : Int32)), (.ref aC), (.ref a)])
  obtain ⟨c35, A35, -, S35, M35, -⟩ := id VC
  refine go (fun _ => X0.arraylength hx (cell := c35) (by rw [e0]; exact A35.1) (State.isArrayOf_alike hZ.alike A35.2.1) (g := (mkF m 4 #[.val (.ref a), .val (.ref aC)] [(.ref aC), (.int (0 : Int32)), (.ref aC), (.ref a)])) rfl rfl (hb hby d_jdk_42_method_3_4) _) ?_
  rw [len_of S35 M35]
  show Ends p e below s _ _ _ T0 (mkF m 5 #[.val (.ref a), .val (.ref aC)] [(.int (1 : Int32)), (.int (0 : Int32)), (.ref aC), (.ref a)])
  refine go (fun _ => XS.aconstNull X0.here hx rfl (hb hby d_jdk_42_method_3_5)) ?_
  show Ends p e below s _ _ _ T0 (mkF m 6 #[.val (.ref a), .val (.ref aC)] [.null, (.int (1 : Int32)), (.int (0 : Int32)), (.ref aC), (.ref a)])
  refine cInit X0 hx hZ hown (by rw [hml]; rfl) e0 (hw _ (List.mem_of_getElem? (i := 14) rfl)) (hw _ (List.mem_of_getElem? (i := 15) rfl)) (hw _ (List.mem_of_getElem? (i := 10) rfl)) (hw _ (List.mem_of_getElem? (i := 17) rfl)) a [(.ref aC), (.int (0 : Int32)), (.int (1 : Int32)), .null] [] rfl (rm_new4_1 hw a aC kC c0 _ O0 f0 ne0 E0 FV FC cz SCS hcz VC l0) (hb hby d_jdk_42_method_3_6) rfl (lenOf pd_5 rfl) rfl (by decide) (by decide) (Nat.le_of_ble_eq_true rfl) (by decide) (by decide) ?_
  rintro v36 T36 h36 L36 X36 e36 ⟨b36, k36, rfl, N36, K36, g36, Fv36, Fc36, V36⟩
  have N36a := Fr.app (Fr.nil _) N36
  have n37 : a ≠ b36 := Nat.ne_of_lt (Nat.lt_of_lt_of_le (E0.lt) g36)
  have n38 : aC ≠ b36 := Nat.ne_of_lt (Nat.lt_of_lt_of_le (VC.lt) g36)
  have f39 : Z.heap.size ≤ b36 := Nat.le_trans (O0).1 g36
  have K40 : Keep h0 h0 [a] := (Keep.refl _ _)
  have b39 : h0.size ≤ b36 := Nat.le_trans (K40).1 g36
  have O41 : Ext Z.heap h36 := xk O0 K36 (allS f0 all0)
  show Ends p e below s _ _ _ T36 (mkF m 9 #[.val (.ref a), .val (.ref aC)] [])
  have K42 : Keep h0 h36 [a] := (Keep.trans K40 K36 (allS (Or.inl (List.mem_of_getElem? (i := 0) rfl)) all0))
  exact endV X36 hx hlk hret (hb hby d_jdk_42_method_3_9) e36 ⟨b36, _, rfl, N36a, K42, b39, Fv36, Fc36, V36⟩ (by decide) (by decide)
set_option maxRecDepth 65536 in
set_option maxHeartbeats 40000000 in
theorem rm_l1eq_1_1 {l : Launch} {Z : State} {a0 : Array Value} (hw : ∀ d ∈ tables_1, d.before a0 Z = true) (bx bz : Addr) (kx kz : ClassId) (p0 q0 : Int32) (h0 : Heap) (Vx : Arv Z h0 bx kx .byte (1 : Int32) [(.int p0)] (.int 0)) (Vz : Arv Z h0 bz kz .byte (1 : Int32) [(.int q0)] (.int 0)) :
    Con l (⟨"java/lang/StringLatin1", "equals", "([B[B)Z"⟩ : MethodName) jdk_43_method_13_code 3 (some .boolean) ({ frames := 0, cells := 0, slots := 0, locals := 0 } : Room) Z #[(.ref bx), (.ref bz)] h0 (fun v h L => v = some (.int (if p0 = q0 then (1 : Int32) else (0 : Int32))) ∧ Fr Z.heap.size L ∧ h0 = h) := by
  refine Con.of (plainFor_of_name pn_6) (Ls := #[.val (.ref bx), .val (.ref bz), .unset]) (fun m => by first | rfl | (simp [entryFrame, mkF, argsToLocals, Value.category]; done)) ?_
  intro p e s m below meth c T0 X0 hx hZ hby hml hown hnm hret hlk e0
  refine go (fun _ => XS.aloadN X0.here hx rfl (hb hby d_jdk_43_method_13_0) rfl rfl) ?_
  show Ends p e below s _ _ _ T0 (mkF m 1 #[.val (.ref bx), .val (.ref bz), .unset] [(.ref bx)])
  obtain ⟨c43, A43, -, S43, M43, -⟩ := id Vx
  refine go (fun _ => X0.arraylength hx (cell := c43) (by rw [e0]; exact A43.1) (State.isArrayOf_alike hZ.alike A43.2.1) (g := (mkF m 1 #[.val (.ref bx), .val (.ref bz), .unset] [(.ref bx)])) rfl rfl (hb hby d_jdk_43_method_13_1) _) ?_
  rw [len_of S43 M43]
  show Ends p e below s _ _ _ T0 (mkF m 2 #[.val (.ref bx), .val (.ref bz), .unset] [(.int (1 : Int32))])
  refine go (fun _ => XS.aloadN X0.here hx rfl (hb hby d_jdk_43_method_13_2) rfl rfl) ?_
  show Ends p e below s _ _ _ T0 (mkF m 3 #[.val (.ref bx), .val (.ref bz), .unset] [(.ref bz), (.int (1 : Int32))])
  obtain ⟨c44, A44, -, S44, M44, -⟩ := id Vz
  refine go (fun _ => X0.arraylength hx (cell := c44) (by rw [e0]; exact A44.1) (State.isArrayOf_alike hZ.alike A44.2.1) (g := (mkF m 3 #[.val (.ref bx), .val (.ref bz), .unset] [(.ref bz), (.int (1 : Int32))])) rfl rfl (hb hby d_jdk_43_method_13_3) _) ?_
  rw [len_of S44 M44]
  show Ends p e below s _ _ _ T0 (mkF m 4 #[.val (.ref bx), .val (.ref bz), .unset] [(.int (1 : Int32)), (.int (1 : Int32))])
  refine go (fun _ => XS.icmpNo X0.here hx rfl (hb hby d_jdk_43_method_13_4) rfl (XT.ii_ne_f ((by decide) : (1 : Int32) = (1 : Int32)))) ?_
  show Ends p e below s _ _ _ T0 (mkF m 7 #[.val (.ref bx), .val (.ref bz), .unset] [])
  refine go (fun _ => XT.iconstV X0.here hx rfl (0 : Int32) (hb hby d_jdk_43_method_13_7) (by decide)) ?_
  show Ends p e below s _ _ _ T0 (mkF m 8 #[.val (.ref bx), .val (.ref bz), .unset] [(.int (0 : Int32))])
  refine go (fun _ => XS.istoreN X0.here hx rfl (hb hby d_jdk_43_method_13_8) rfl (l' := #[.val (.ref bx), .val (.ref bz), .val (.int (0 : Int32))]) rfl) ?_
  show Ends p e below s _ _ _ T0 (mkF m 9 #[.val (.ref bx), .val (.ref bz), .val (.int (0 : Int32))] [])
  refine go (fun _ => XS.iloadN X0.here hx rfl (hb hby d_jdk_43_method_13_9) rfl) ?_
  show Ends p e below s _ _ _ T0 (mkF m 10 #[.val (.ref bx), .val (.ref bz), .val (.int (0 : Int32))] [(.int (0 : Int32))])
  refine go (fun _ => XS.aloadN X0.here hx rfl (hb hby d_jdk_43_method_13_10) rfl rfl) ?_
  show Ends p e below s _ _ _ T0 (mkF m 11 #[.val (.ref bx), .val (.ref bz), .val (.int (0 : Int32))] [(.ref bx), (.int (0 : Int32))])
  obtain ⟨c45, A45, -, S45, M45, -⟩ := id Vx
  refine go (fun _ => X0.arraylength hx (cell := c45) (by rw [e0]; exact A45.1) (State.isArrayOf_alike hZ.alike A45.2.1) (g := (mkF m 11 #[.val (.ref bx), .val (.ref bz), .val (.int (0 : Int32))] [(.ref bx), (.int (0 : Int32))])) rfl rfl (hb hby d_jdk_43_method_13_11) _) ?_
  rw [len_of S45 M45]
  show Ends p e below s _ _ _ T0 (mkF m 12 #[.val (.ref bx), .val (.ref bz), .val (.int (0 : Int32))] [(.int (1 : Int32)), (.int (0 : Int32))])
  refine go (fun _ => XS.icmpNo X0.here hx rfl (hb hby d_jdk_43_method_13_12) rfl (XT.ii_ge_f ((by decide) : (0 : Int32) < (1 : Int32)))) ?_
  show Ends p e below s _ _ _ T0 (mkF m 15 #[.val (.ref bx), .val (.ref bz), .val (.int (0 : Int32))] [])
  refine go (fun _ => XS.aloadN X0.here hx rfl (hb hby d_jdk_43_method_13_15) rfl rfl) ?_
  show Ends p e below s _ _ _ T0 (mkF m 16 #[.val (.ref bx), .val (.ref bz), .val (.int (0 : Int32))] [(.ref bx)])
  refine go (fun _ => XS.iloadN X0.here hx rfl (hb hby d_jdk_43_method_13_16) rfl) ?_
  show Ends p e below s _ _ _ T0 (mkF m 17 #[.val (.ref bx), .val (.ref bz), .val (.int (0 : Int32))] [(.int (0 : Int32)), (.ref bx)])
  obtain ⟨c46, A46, -, S46, M46, H46, -⟩ := id Vx
  have B46 := inb_of S46 (j := (0 : Int32)) (by decide)
  refine go (fun _ => X0.baloadBytes hx (j := (0 : Int32)) (v := (.int p0)) (by rw [e0]; exact A46.1) (State.isArrayOf_alike hZ.alike A46.2.1) A46.2.2 B46 (H46.at B46 rfl) (g := (mkF m 17 #[.val (.ref bx), .val (.ref bz), .val (.int (0 : Int32))] [(.int (0 : Int32)), (.ref bx)])) rfl rfl (hb hby d_jdk_43_method_13_17) _) ?_
  show Ends p e below s _ _ _ T0 (mkF m 18 #[.val (.ref bx), .val (.ref bz), .val (.int (0 : Int32))] [(.int p0)])
  refine go (fun _ => XS.aloadN X0.here hx rfl (hb hby d_jdk_43_method_13_18) rfl rfl) ?_
  show Ends p e below s _ _ _ T0 (mkF m 19 #[.val (.ref bx), .val (.ref bz), .val (.int (0 : Int32))] [(.ref bz), (.int p0)])
  refine go (fun _ => XS.iloadN X0.here hx rfl (hb hby d_jdk_43_method_13_19) rfl) ?_
  show Ends p e below s _ _ _ T0 (mkF m 20 #[.val (.ref bx), .val (.ref bz), .val (.int (0 : Int32))] [(.int (0 : Int32)), (.ref bz), (.int p0)])
  obtain ⟨c47, A47, -, S47, M47, H47, -⟩ := id Vz
  have B47 := inb_of S47 (j := (0 : Int32)) (by decide)
  refine go (fun _ => X0.baloadBytes hx (j := (0 : Int32)) (v := (.int q0)) (by rw [e0]; exact A47.1) (State.isArrayOf_alike hZ.alike A47.2.1) A47.2.2 B47 (H47.at B47 rfl) (g := (mkF m 20 #[.val (.ref bx), .val (.ref bz), .val (.int (0 : Int32))] [(.int (0 : Int32)), (.ref bz), (.int p0)])) rfl rfl (hb hby d_jdk_43_method_13_20) _) ?_
  show Ends p e below s _ _ _ T0 (mkF m 21 #[.val (.ref bx), .val (.ref bz), .val (.int (0 : Int32))] [(.int q0), (.int p0)])
  by_cases c21_48 : p0 = q0
  · refine go (fun _ => XS.icmpYes X0.here hx rfl (pc0 := 21) (pc' := 26) rfl (hb hby d_jdk_43_method_13_21) rfl (XT.ii_eq_t c21_48) (by decide) (by decide)) ?_
    show Ends p e below s _ _ _ T0 (mkF m 26 #[.val (.ref bx), .val (.ref bz), .val (.int (0 : Int32))] [])
    refine go (fun _ => XT.iincV X0.here hx rfl (1 : Int32) (hb hby d_jdk_43_method_13_26) (by decide) rfl (l' := #[.val (.ref bx), .val (.ref bz), .val (.int (1 : Int32))]) rfl) ?_
    show Ends p e below s _ _ _ T0 (mkF m 29 #[.val (.ref bx), .val (.ref bz), .val (.int (1 : Int32))] [])
    refine go (fun _ => XS.goto X0.here hx rfl (pc0 := 29) (pc' := 9) rfl (hb hby d_jdk_43_method_13_29) (by decide) (by decide)) ?_
    show Ends p e below s _ _ _ T0 (mkF m 9 #[.val (.ref bx), .val (.ref bz), .val (.int (1 : Int32))] [])
    refine go (fun _ => XS.iloadN X0.here hx rfl (hb hby d_jdk_43_method_13_9) rfl) ?_
    show Ends p e below s _ _ _ T0 (mkF m 10 #[.val (.ref bx), .val (.ref bz), .val (.int (1 : Int32))] [(.int (1 : Int32))])
    refine go (fun _ => XS.aloadN X0.here hx rfl (hb hby d_jdk_43_method_13_10) rfl rfl) ?_
    show Ends p e below s _ _ _ T0 (mkF m 11 #[.val (.ref bx), .val (.ref bz), .val (.int (1 : Int32))] [(.ref bx), (.int (1 : Int32))])
    obtain ⟨c49, A49, -, S49, M49, -⟩ := id Vx
    refine go (fun _ => X0.arraylength hx (cell := c49) (by rw [e0]; exact A49.1) (State.isArrayOf_alike hZ.alike A49.2.1) (g := (mkF m 11 #[.val (.ref bx), .val (.ref bz), .val (.int (1 : Int32))] [(.ref bx), (.int (1 : Int32))])) rfl rfl (hb hby d_jdk_43_method_13_11) _) ?_
    rw [len_of S49 M49]
    show Ends p e below s _ _ _ T0 (mkF m 12 #[.val (.ref bx), .val (.ref bz), .val (.int (1 : Int32))] [(.int (1 : Int32)), (.int (1 : Int32))])
    refine go (fun _ => XS.icmpYes X0.here hx rfl (pc0 := 12) (pc' := 32) rfl (hb hby d_jdk_43_method_13_12) rfl (XT.ii_ge_t ((by decide) : ¬ ((1 : Int32) < (1 : Int32)))) (by decide) (by decide)) ?_
    show Ends p e below s _ _ _ T0 (mkF m 32 #[.val (.ref bx), .val (.ref bz), .val (.int (1 : Int32))] [])
    refine go (fun _ => XT.iconstV X0.here hx rfl (1 : Int32) (hb hby d_jdk_43_method_13_32) (by decide)) ?_
    show Ends p e below s _ _ _ T0 (mkF m 33 #[.val (.ref bx), .val (.ref bz), .val (.int (1 : Int32))] [(.int (1 : Int32))])
    exact endN X0 hx hlk hret (by simp) (hb hby d_jdk_43_method_13_33) e0 ⟨by simp [nar, c21_48], (Fr.nil _), rfl⟩ (by decide) (by decide)
  · refine go (fun _ => XS.icmpNo X0.here hx rfl (hb hby d_jdk_43_method_13_21) rfl (XT.ii_eq_f c21_48)) ?_
    show Ends p e below s _ _ _ T0 (mkF m 24 #[.val (.ref bx), .val (.ref bz), .val (.int (0 : Int32))] [])
    refine go (fun _ => XT.iconstV X0.here hx rfl (0 : Int32) (hb hby d_jdk_43_method_13_24) (by decide)) ?_
    show Ends p e below s _ _ _ T0 (mkF m 25 #[.val (.ref bx), .val (.ref bz), .val (.int (0 : Int32))] [(.int (0 : Int32))])
    exact endN X0 hx hlk hret (by simp) (hb hby d_jdk_43_method_13_25) e0 ⟨by simp [nar, c21_48], (Fr.nil _), rfl⟩ (by decide) (by decide)
set_option maxRecDepth 65536 in
set_option maxHeartbeats 40000000 in
theorem rm_streq_1_1 {l : Launch} {Z : State} {a0 : Array Value} (hw : ∀ d ∈ tables_1, d.before a0 Z = true) (x z : Addr) (bx bz : Addr) (kx kz : ClassId) (p0 q0 : Int32) (h0 : Heap) (O0 : Ext Z.heap h0) (ne0 : x ≠ z) (Ez : Exa Z h0 z "java/lang/String") (cz : Int32) (SCS : Sta Z Z.heap "java/lang/String" "COMPACT_STRINGS" "Z" (.int cz)) (hcz : ¬ cz = (0 : Int32)) (Fvx : Fld Z h0 x "java/lang/String" "value" "[B" (.ref bx)) (Fcx : Fld Z h0 x "java/lang/String" "coder" "B" (.int 0)) (Fvz : Fld Z h0 z "java/lang/String" "value" "[B" (.ref bz)) (Fcz : Fld Z h0 z "java/lang/String" "coder" "B" (.int 0)) (Vx : Arv Z h0 bx kx .byte (1 : Int32) [(.int p0)] (.int 0)) (Vz : Arv Z h0 bz kz .byte (1 : Int32) [(.int q0)] (.int 0)) :
    Con l (⟨"java/lang/String", "equals", "(Ljava/lang/Object;)Z"⟩ : MethodName) jdk_42_method_66_code 3 (some .boolean) ({ frames := 1, cells := 0, slots := 0, locals := 14 } : Room) Z #[(.ref x), (.ref z)] h0 (fun v h L => v = some (.int (if p0 = q0 then (1 : Int32) else (0 : Int32))) ∧ Fr Z.heap.size L ∧ h0 = h) := by
  refine Con.of (plainFor_of_name pn_2) (Ls := #[.val (.ref x), .val (.ref z), .unset]) (fun m => by first | rfl | (simp [entryFrame, mkF, argsToLocals, Value.category]; done)) ?_
  intro p e s m below meth c T0 X0 hx hZ hby hml hown hnm hret hlk e0
  refine go (fun _ => XS.aloadN X0.here hx rfl (hb hby d_jdk_42_method_66_0) rfl rfl) ?_
  show Ends p e below s _ _ _ T0 (mkF m 1 #[.val (.ref x), .val (.ref z), .unset] [(.ref x)])
  refine go (fun _ => XS.aloadN X0.here hx rfl (hb hby d_jdk_42_method_66_1) rfl rfl) ?_
  show Ends p e below s _ _ _ T0 (mkF m 2 #[.val (.ref x), .val (.ref z), .unset] [(.ref z), (.ref x)])
  refine go (fun _ => XT.acmpYes X0.here hx rfl (pc0 := 2) (pc' := 7) rfl (hb hby d_jdk_42_method_66_2) rfl rfl rfl (XT.aa_ne_t (fun q => ne0 (Value.ref.inj q))) (by decide) (by decide)) ?_
  show Ends p e below s _ _ _ T0 (mkF m 7 #[.val (.ref x), .val (.ref z), .unset] [])
  refine go (fun _ => XS.aloadN X0.here hx rfl (hb hby d_jdk_42_method_66_7) rfl rfl) ?_
  show Ends p e below s _ _ _ T0 (mkF m 8 #[.val (.ref x), .val (.ref z), .unset] [(.ref z)])
  obtain ⟨T50, X50, e50, s50⟩ := instY X0 hx hZ hown (hw _ (List.mem_of_getElem? (i := 66) rfl)) e0 (Ins.self Ez) (g := (mkF m 8 #[.val (.ref x), .val (.ref z), .unset] [(.ref z)])) rfl rfl (hb hby d_jdk_42_method_66_8)
  refine go s50 ?_
  show Ends p e below s _ _ _ T50 (mkF m 11 #[.val (.ref x), .val (.ref z), .unset] [(.int (1 : Int32))])
  refine go (fun _ => XS.ifNo X50.here hx rfl (hb hby d_jdk_42_method_66_11) rfl (XT.i0_eq_f ((by decide) : ¬ ((1 : Int32) = (0 : Int32))))) ?_
  show Ends p e below s _ _ _ T50 (mkF m 14 #[.val (.ref x), .val (.ref z), .unset] [])
  refine go (fun _ => XS.aloadN X50.here hx rfl (hb hby d_jdk_42_method_66_14) rfl rfl) ?_
  show Ends p e below s _ _ _ T50 (mkF m 15 #[.val (.ref x), .val (.ref z), .unset] [(.ref z)])
  obtain ⟨T51, X51, e51, s51⟩ := castY X50 hx hZ hown (hw _ (List.mem_of_getElem? (i := 66) rfl)) e50 (Ins.self Ez) (g := (mkF m 15 #[.val (.ref x), .val (.ref z), .unset] [(.ref z)])) rfl rfl (hb hby d_jdk_42_method_66_15)
  refine go s51 ?_
  show Ends p e below s _ _ _ T51 (mkF m 18 #[.val (.ref x), .val (.ref z), .unset] [(.ref z)])
  refine go (fun _ => XS.astoreN X51.here hx rfl (hb hby d_jdk_42_method_66_18) rfl rfl (l' := #[.val (.ref x), .val (.ref z), .val (.ref z)]) rfl) ?_
  show Ends p e below s _ _ _ T51 (mkF m 19 #[.val (.ref x), .val (.ref z), .val (.ref z)] [])
  obtain ⟨T52, X52, e52, s52⟩ := getS2 X51 hx hZ hown (host := "") (Or.inl (hw _ (List.mem_of_getElem? (i := 21) rfl))) Via.refl e51 (Sta.ext O0 SCS) (g := (mkF m 19 #[.val (.ref x), .val (.ref z), .val (.ref z)] [])) rfl (hb hby d_jdk_42_method_66_19)
  refine go s52 ?_
  show Ends p e below s _ _ _ T52 (mkF m 22 #[.val (.ref x), .val (.ref z), .val (.ref z)] [(.int cz)])
  refine go (fun _ => XS.ifNo X52.here hx rfl (hb hby d_jdk_42_method_66_22) rfl (XT.i0_eq_f hcz)) ?_
  show Ends p e below s _ _ _ T52 (mkF m 25 #[.val (.ref x), .val (.ref z), .val (.ref z)] [])
  refine go (fun _ => XS.aloadN X52.here hx rfl (hb hby d_jdk_42_method_66_25) rfl rfl) ?_
  show Ends p e below s _ _ _ T52 (mkF m 26 #[.val (.ref x), .val (.ref z), .val (.ref z)] [(.ref x)])
  obtain ⟨T53, X53, e53, s53⟩ := getF X52 hx hZ hown (host := "") (Or.inl (hw _ (List.mem_of_getElem? (i := 33) rfl))) Via.refl e52 Fcx (g := (mkF m 26 #[.val (.ref x), .val (.ref z), .val (.ref z)] [(.ref x)])) rfl rfl (hb hby d_jdk_42_method_66_26)
  refine go s53 ?_
  show Ends p e below s _ _ _ T53 (mkF m 29 #[.val (.ref x), .val (.ref z), .val (.ref z)] [(.int (0 : Int32))])
  refine go (fun _ => XS.aloadN X53.here hx rfl (hb hby d_jdk_42_method_66_29) rfl rfl) ?_
  show Ends p e below s _ _ _ T53 (mkF m 30 #[.val (.ref x), .val (.ref z), .val (.ref z)] [(.ref z), (.int (0 : Int32))])
  obtain ⟨T54, X54, e54, s54⟩ := getF X53 hx hZ hown (host := "") (Or.inl (hw _ (List.mem_of_getElem? (i := 33) rfl))) Via.refl e53 Fcz (g := (mkF m 30 #[.val (.ref x), .val (.ref z), .val (.ref z)] [(.ref z), (.int (0 : Int32))])) rfl rfl (hb hby d_jdk_42_method_66_30)
  refine go s54 ?_
  show Ends p e below s _ _ _ T54 (mkF m 33 #[.val (.ref x), .val (.ref z), .val (.ref z)] [(.int (0 : Int32)), (.int (0 : Int32))])
  refine go (fun _ => XS.icmpNo X54.here hx rfl (hb hby d_jdk_42_method_66_33) rfl (XT.ii_ne_f ((by decide) : (0 : Int32) = (0 : Int32)))) ?_
  show Ends p e below s _ _ _ T54 (mkF m 36 #[.val (.ref x), .val (.ref z), .val (.ref z)] [])
  refine go (fun _ => XS.aloadN X54.here hx rfl (hb hby d_jdk_42_method_66_36) rfl rfl) ?_
  show Ends p e below s _ _ _ T54 (mkF m 37 #[.val (.ref x), .val (.ref z), .val (.ref z)] [(.ref x)])
  obtain ⟨T55, X55, e55, s55⟩ := getF X54 hx hZ hown (host := "") (Or.inl (hw _ (List.mem_of_getElem? (i := 35) rfl))) Via.refl e54 Fvx (g := (mkF m 37 #[.val (.ref x), .val (.ref z), .val (.ref z)] [(.ref x)])) rfl rfl (hb hby d_jdk_42_method_66_37)
  refine go s55 ?_
  show Ends p e below s _ _ _ T55 (mkF m 40 #[.val (.ref x), .val (.ref z), .val (.ref z)] [(.ref bx)])
  refine go (fun _ => XS.aloadN X55.here hx rfl (hb hby d_jdk_42_method_66_40) rfl rfl) ?_
  show Ends p e below s _ _ _ T55 (mkF m 41 #[.val (.ref x), .val (.ref z), .val (.ref z)] [(.ref z), (.ref bx)])
  obtain ⟨T56, X56, e56, s56⟩ := getF X55 hx hZ hown (host := "") (Or.inl (hw _ (List.mem_of_getElem? (i := 35) rfl))) Via.refl e55 Fvz (g := (mkF m 41 #[.val (.ref x), .val (.ref z), .val (.ref z)] [(.ref z), (.ref bx)])) rfl rfl (hb hby d_jdk_42_method_66_41)
  refine go s56 ?_
  show Ends p e below s _ _ _ T56 (mkF m 44 #[.val (.ref x), .val (.ref z), .val (.ref z)] [(.ref bz), (.ref bx)])
  refine cStat X56 hx hZ hown (by rw [hml]; rfl) e56 (hw _ (List.mem_of_getElem? (i := 67) rfl)) (hw _ (List.mem_of_getElem? (i := 68) rfl)) (hw _ (List.mem_of_getElem? (i := 69) rfl)) (hw _ (List.mem_of_getElem? (i := 70) rfl)) [(.ref bx), (.ref bz)] [] rfl (rm_l1eq_1_1 hw bx bz kx kz p0 q0 _ Vx Vz) (hb hby d_jdk_42_method_66_44) rfl (lenOf pd_7 rfl) (by decide) (by decide) (Nat.le_of_ble_eq_true rfl) (by decide) (by decide) ?_
  rintro v57 T57 h57 L57 X57 e57 ⟨rfl, N57, rfl⟩
  have N57a := Fr.app (Fr.nil _) N57
  show Ends p e below s _ _ _ T57 (mkF m 47 #[.val (.ref x), .val (.ref z), .val (.ref z)] [(.int (if p0 = q0 then (1 : Int32) else (0 : Int32)))])
  by_cases c47_58 : (if p0 = q0 then (1 : Int32) else (0 : Int32)) = (0 : Int32)
  · refine go (fun _ => XS.ifYes X57.here hx rfl (pc0 := 47) (pc' := 54) rfl (hb hby d_jdk_42_method_66_47) rfl (XT.i0_eq_t c47_58) (by decide) (by decide)) ?_
    show Ends p e below s _ _ _ T57 (mkF m 54 #[.val (.ref x), .val (.ref z), .val (.ref z)] [])
    refine go (fun _ => XT.iconstV X57.here hx rfl (0 : Int32) (hb hby d_jdk_42_method_66_54) (by decide)) ?_
    show Ends p e below s _ _ _ T57 (mkF m 55 #[.val (.ref x), .val (.ref z), .val (.ref z)] [(.int (0 : Int32))])
    exact endN X57 hx hlk hret (by simp) (hb hby d_jdk_42_method_66_55) e57 ⟨by rw [c47_58]; rfl, N57a, rfl⟩ (by decide) (by decide)
  · refine go (fun _ => XS.ifNo X57.here hx rfl (hb hby d_jdk_42_method_66_47) rfl (XT.i0_eq_f c47_58)) ?_
    show Ends p e below s _ _ _ T57 (mkF m 50 #[.val (.ref x), .val (.ref z), .val (.ref z)] [])
    refine go (fun _ => XT.iconstV X57.here hx rfl (1 : Int32) (hb hby d_jdk_42_method_66_50) (by decide)) ?_
    show Ends p e below s _ _ _ T57 (mkF m 51 #[.val (.ref x), .val (.ref z), .val (.ref z)] [(.int (1 : Int32))])
    refine go (fun _ => XS.goto X57.here hx rfl (pc0 := 51) (pc' := 55) rfl (hb hby d_jdk_42_method_66_51) (by decide) (by decide)) ?_
    show Ends p e below s _ _ _ T57 (mkF m 55 #[.val (.ref x), .val (.ref z), .val (.ref z)] [(.int (1 : Int32))])
    exact endN X57 hx hlk hret (by simp) (hb hby d_jdk_42_method_66_55) e57 ⟨congrArg (fun z => some (Value.int z)) (own_01 (by first | (repeat' split) <;> simp | simp) c47_58).symm, N57a, rfl⟩ (by decide) (by decide)
set_option maxRecDepth 65536 in
set_option maxHeartbeats 40000000 in
theorem rm_values {l : Launch} {Z : State} {a0 : Array Value} (hw : ∀ d ∈ tables_1, d.before a0 Z = true) (a_DeleteAction_NO_ACTION : Addr) (a_DeletionRule_RESTRICT : Addr) (a_DeleteAction__VALUES : Addr) (a_DeleteAction_RESTRICT : Addr) (a_DeleteAction_CASCADE : Addr) (a_DeleteAction_SET_NULL : Addr) (a_DeleteAction_SET_DEFAULT : Addr) (a_DeleteAction_NO_ACTION_catalogCode : Addr) (a_DeleteAction_NO_ACTION_catalogCode_value : Addr) (a_DeletionRule_DETACH : Addr) (a_DeleteAction_RESTRICT_catalogCode : Addr) (a_DeleteAction_RESTRICT_catalogCode_value : Addr) (a_DeleteAction_CASCADE_catalogCode : Addr) (a_DeleteAction_CASCADE_catalogCode_value : Addr) (a_DeleteAction_SET_NULL_catalogCode : Addr) (a_DeleteAction_SET_NULL_catalogCode_value : Addr) (a_DeleteAction_SET_DEFAULT_catalogCode : Addr) (a_DeleteAction_SET_DEFAULT_catalogCode_value : Addr) (a_DeletionRule_CASCADE : Addr) (k_a_DeleteAction__VALUES : ClassId) (k_a_DeleteAction_NO_ACTION_catalogCode_value : ClassId) (k_a_DeleteAction_RESTRICT_catalogCode_value : ClassId) (k_a_DeleteAction_CASCADE_catalogCode_value : ClassId) (k_a_DeleteAction_SET_NULL_catalogCode_value : ClassId) (k_a_DeleteAction_SET_DEFAULT_catalogCode_value : ClassId) (h0 : Heap) (O0 : Ext Z.heap h0) (ft_2 : Sta Z Z.heap "com/example/scopa/scopa/schema/DeleteAction" "NO_ACTION" "Lcom/example/scopa/scopa/schema/DeleteAction;" (.ref a_DeleteAction_NO_ACTION)) (ft_5 : Sta Z Z.heap "com/example/scopa/scopa/schema/DeletionRule" "RESTRICT" "Lcom/example/scopa/scopa/schema/DeletionRule;" (.ref a_DeletionRule_RESTRICT)) (ft_8 : Sta Z Z.heap "com/example/scopa/scopa/schema/DeleteAction" "$VALUES" "[Lcom/example/scopa/scopa/schema/DeleteAction;" (.ref a_DeleteAction__VALUES)) (ft_15 : Sta Z Z.heap "com/example/scopa/scopa/schema/DeleteAction" "RESTRICT" "Lcom/example/scopa/scopa/schema/DeleteAction;" (.ref a_DeleteAction_RESTRICT)) (ft_20 : Sta Z Z.heap "com/example/scopa/scopa/schema/DeleteAction" "CASCADE" "Lcom/example/scopa/scopa/schema/DeleteAction;" (.ref a_DeleteAction_CASCADE)) (ft_25 : Sta Z Z.heap "com/example/scopa/scopa/schema/DeleteAction" "SET_NULL" "Lcom/example/scopa/scopa/schema/DeleteAction;" (.ref a_DeleteAction_SET_NULL)) (ft_30 : Sta Z Z.heap "com/example/scopa/scopa/schema/DeleteAction" "SET_DEFAULT" "Lcom/example/scopa/scopa/schema/DeleteAction;" (.ref a_DeleteAction_SET_DEFAULT)) (ft_48 : Sta Z Z.heap "com/example/scopa/scopa/schema/DeletionRule" "DETACH" "Lcom/example/scopa/scopa/schema/DeletionRule;" (.ref a_DeletionRule_DETACH)) (ft_101 : Sta Z Z.heap "com/example/scopa/scopa/schema/DeletionRule" "CASCADE" "Lcom/example/scopa/scopa/schema/DeletionRule;" (.ref a_DeletionRule_CASCADE)) (ex_3 : Exa Z Z.heap a_DeleteAction_NO_ACTION "com/example/scopa/scopa/schema/DeleteAction") (ex_6 : Exa Z Z.heap a_DeletionRule_RESTRICT "com/example/scopa/scopa/schema/DeletionRule") (ex_10 : Exa Z Z.heap a_DeleteAction__VALUES "[Lcom/example/scopa/scopa/schema/DeleteAction;") (ex_16 : Exa Z Z.heap a_DeleteAction_RESTRICT "com/example/scopa/scopa/schema/DeleteAction") (ex_21 : Exa Z Z.heap a_DeleteAction_CASCADE "com/example/scopa/scopa/schema/DeleteAction") (ex_26 : Exa Z Z.heap a_DeleteAction_SET_NULL "com/example/scopa/scopa/schema/DeleteAction") (ex_31 : Exa Z Z.heap a_DeleteAction_SET_DEFAULT "com/example/scopa/scopa/schema/DeleteAction") (ex_36 : Exa Z Z.heap a_DeleteAction_NO_ACTION_catalogCode "java/lang/String") (ex_49 : Exa Z Z.heap a_DeletionRule_DETACH "com/example/scopa/scopa/schema/DeletionRule") (ex_52 : Exa Z Z.heap a_DeleteAction_RESTRICT_catalogCode "java/lang/String") (ex_63 : Exa Z Z.heap a_DeleteAction_CASCADE_catalogCode "java/lang/String") (ex_74 : Exa Z Z.heap a_DeleteAction_SET_NULL_catalogCode "java/lang/String") (ex_89 : Exa Z Z.heap a_DeleteAction_SET_DEFAULT_catalogCode "java/lang/String") (ex_102 : Exa Z Z.heap a_DeletionRule_CASCADE "com/example/scopa/scopa/schema/DeletionRule") (ft_35 : Fld Z Z.heap a_DeleteAction_NO_ACTION "com/example/scopa/scopa/schema/DeleteAction" "catalogCode" "Ljava/lang/String;" (.ref a_DeleteAction_NO_ACTION_catalogCode)) (ft_38 : Fld Z Z.heap a_DeleteAction_NO_ACTION_catalogCode "java/lang/String" "coder" "B" (.int (0 : Int32))) (ft_40 : Fld Z Z.heap a_DeleteAction_NO_ACTION_catalogCode "java/lang/String" "value" "[B" (.ref a_DeleteAction_NO_ACTION_catalogCode_value)) (ft_46 : Fld Z Z.heap a_DeleteAction_NO_ACTION "com/example/scopa/scopa/schema/DeleteAction" "rule" "Lcom/example/scopa/scopa/schema/DeletionRule;" (.ref a_DeletionRule_RESTRICT)) (ft_51 : Fld Z Z.heap a_DeleteAction_RESTRICT "com/example/scopa/scopa/schema/DeleteAction" "catalogCode" "Ljava/lang/String;" (.ref a_DeleteAction_RESTRICT_catalogCode)) (ft_54 : Fld Z Z.heap a_DeleteAction_RESTRICT_catalogCode "java/lang/String" "coder" "B" (.int (0 : Int32))) (ft_56 : Fld Z Z.heap a_DeleteAction_RESTRICT_catalogCode "java/lang/String" "value" "[B" (.ref a_DeleteAction_RESTRICT_catalogCode_value)) (ft_62 : Fld Z Z.heap a_DeleteAction_CASCADE "com/example/scopa/scopa/schema/DeleteAction" "catalogCode" "Ljava/lang/String;" (.ref a_DeleteAction_CASCADE_catalogCode)) (ft_65 : Fld Z Z.heap a_DeleteAction_CASCADE_catalogCode "java/lang/String" "coder" "B" (.int (0 : Int32))) (ft_67 : Fld Z Z.heap a_DeleteAction_CASCADE_catalogCode "java/lang/String" "value" "[B" (.ref a_DeleteAction_CASCADE_catalogCode_value)) (ft_73 : Fld Z Z.heap a_DeleteAction_SET_NULL "com/example/scopa/scopa/schema/DeleteAction" "catalogCode" "Ljava/lang/String;" (.ref a_DeleteAction_SET_NULL_catalogCode)) (ft_76 : Fld Z Z.heap a_DeleteAction_SET_NULL_catalogCode "java/lang/String" "coder" "B" (.int (0 : Int32))) (ft_78 : Fld Z Z.heap a_DeleteAction_SET_NULL_catalogCode "java/lang/String" "value" "[B" (.ref a_DeleteAction_SET_NULL_catalogCode_value)) (ft_84 : Fld Z Z.heap a_DeleteAction_SET_NULL "com/example/scopa/scopa/schema/DeleteAction" "rule" "Lcom/example/scopa/scopa/schema/DeletionRule;" (.ref a_DeletionRule_DETACH)) (ft_86 : Fld Z Z.heap a_DeleteAction_RESTRICT "com/example/scopa/scopa/schema/DeleteAction" "rule" "Lcom/example/scopa/scopa/schema/DeletionRule;" (.ref a_DeletionRule_RESTRICT)) (ft_88 : Fld Z Z.heap a_DeleteAction_SET_DEFAULT "com/example/scopa/scopa/schema/DeleteAction" "catalogCode" "Ljava/lang/String;" (.ref a_DeleteAction_SET_DEFAULT_catalogCode)) (ft_91 : Fld Z Z.heap a_DeleteAction_SET_DEFAULT_catalogCode "java/lang/String" "coder" "B" (.int (0 : Int32))) (ft_93 : Fld Z Z.heap a_DeleteAction_SET_DEFAULT_catalogCode "java/lang/String" "value" "[B" (.ref a_DeleteAction_SET_DEFAULT_catalogCode_value)) (ft_99 : Fld Z Z.heap a_DeleteAction_SET_DEFAULT "com/example/scopa/scopa/schema/DeleteAction" "rule" "Lcom/example/scopa/scopa/schema/DeletionRule;" (.ref a_DeletionRule_DETACH)) (ft_104 : Fld Z Z.heap a_DeleteAction_CASCADE "com/example/scopa/scopa/schema/DeleteAction" "rule" "Lcom/example/scopa/scopa/schema/DeletionRule;" (.ref a_DeletionRule_CASCADE)) (av_105 : Arv Z Z.heap a_DeleteAction__VALUES k_a_DeleteAction__VALUES (.object "com/example/scopa/scopa/schema/DeleteAction") (5 : Int32) [(.ref a_DeleteAction_NO_ACTION), (.ref a_DeleteAction_RESTRICT), (.ref a_DeleteAction_CASCADE), (.ref a_DeleteAction_SET_NULL), (.ref a_DeleteAction_SET_DEFAULT)] .null) (av_106 : Arv Z Z.heap a_DeleteAction_NO_ACTION_catalogCode_value k_a_DeleteAction_NO_ACTION_catalogCode_value .byte (1 : Int32) [(.int (97 : Int32))] (.int 0)) (av_107 : Arv Z Z.heap a_DeleteAction_RESTRICT_catalogCode_value k_a_DeleteAction_RESTRICT_catalogCode_value .byte (1 : Int32) [(.int (114 : Int32))] (.int 0)) (av_108 : Arv Z Z.heap a_DeleteAction_CASCADE_catalogCode_value k_a_DeleteAction_CASCADE_catalogCode_value .byte (1 : Int32) [(.int (99 : Int32))] (.int 0)) (av_109 : Arv Z Z.heap a_DeleteAction_SET_NULL_catalogCode_value k_a_DeleteAction_SET_NULL_catalogCode_value .byte (1 : Int32) [(.int (110 : Int32))] (.int 0)) (av_110 : Arv Z Z.heap a_DeleteAction_SET_DEFAULT_catalogCode_value k_a_DeleteAction_SET_DEFAULT_catalogCode_value .byte (1 : Int32) [(.int (100 : Int32))] (.int 0)) :
    Con l (⟨"com/example/scopa/scopa/schema/DeleteAction", "values", "()[Lcom/example/scopa/scopa/schema/DeleteAction;"⟩ : MethodName) prog_10_method_1_code 0 (some (.array (.object "com/example/scopa/scopa/schema/DeleteAction"))) ({ frames := 1, cells := 1, slots := 5, locals := 14 } : Room) Z #[] h0 (fun v h L => ∃ b, v = some (.ref b) ∧ Fr Z.heap.size L ∧ Keep h0 h [] ∧ h0.size ≤ b ∧ Arv Z h b k_a_DeleteAction__VALUES (.object "com/example/scopa/scopa/schema/DeleteAction") (5 : Int32) [(.ref a_DeleteAction_NO_ACTION), (.ref a_DeleteAction_RESTRICT), (.ref a_DeleteAction_CASCADE), (.ref a_DeleteAction_SET_NULL), (.ref a_DeleteAction_SET_DEFAULT)] .null) := by
  refine Con.of (plainFor_of_name pn_8) (Ls := #[]) (fun m => by first | rfl | (simp [entryFrame, mkF, argsToLocals, Value.category]; done)) ?_
  intro p e s m below meth c T0 X0 hx hZ hby hml hown hnm hret hlk e0
  obtain ⟨T59, X59, e59, s59⟩ := getS2 X0 hx hZ hown (host := "") (Or.inl (hw _ (List.mem_of_getElem? (i := 43) rfl))) Via.refl e0 (Sta.ext O0 ft_8) (g := (mkF m 0 #[] [])) rfl (hb hby d_prog_10_method_1_0)
  refine go s59 ?_
  show Ends p e below s _ _ _ T59 (mkF m 3 #[] [(.ref a_DeleteAction__VALUES)])
  obtain ⟨T60, h60, X60, e60, E60, V60, A60, s60⟩ := cloneH X59 hx hZ hown (hw _ (List.mem_of_getElem? (i := 45) rfl)) (hw _ (List.mem_of_getElem? (i := 46) rfl)) (hw _ (List.mem_of_getElem? (i := 50) rfl)) (hw _ (List.mem_of_getElem? (i := 48) rfl)) (hw _ (List.mem_of_getElem? (i := 49) rfl)) (hw _ (List.mem_of_getElem? (i := 51) rfl)) e59 (Arv.arh (Arv.ext av_105 O0)) (Exa.ext O0 ex_10) (g := (mkF m 3 #[] [(.ref a_DeleteAction__VALUES)])) rfl (by rw [hml]; rfl) rfl (hb hby d_prog_10_method_1_3) (by decide) (W := 0) (cap := 5) (by show 2 * 0 + _ ≤ _; exact Nat.le_of_eq rfl) (by decide) (by decide) (by decide) (by decide)
  obtain ⟨a60, g60⟩ : ∃ z : Addr, z = h0.size := ⟨_, rfl⟩
  have f60 : Z.heap.size ≤ a60 := by rw [g60]; exact (O0).1
  have K61 : Keep h0 h0 [] := (Keep.refl _ _)
  have b60 : h0.size ≤ a60 := by rw [g60]; exact (K61).1
  rw [← g60] at V60 A60 s60
  have O62 : Ext Z.heap h60 := xx O0 E60
  refine go s60 ?_
  show Ends p e below s _ _ _ T60 (mkF m 6 #[] [(.ref a60)])
  obtain ⟨T63, X63, e63, s63⟩ := castY X60 hx hZ hown (hw _ (List.mem_of_getElem? (i := 57) rfl)) e60 (Ins.self A60) (g := (mkF m 6 #[] [(.ref a60)])) rfl rfl (hb hby d_prog_10_method_1_6)
  refine go s63 ?_
  show Ends p e below s _ _ _ T63 (mkF m 9 #[] [(.ref a60)])
  have K64 : Keep h0 h60 [] := (Keep.ext K61 E60)
  exact endA X63 hx hlk hret rfl rfl (hb hby d_prog_10_method_1_9) e63 ⟨a60, rfl, (Fr.nil _), K64, b60, V60⟩ (by decide) (by decide)
set_option maxRecDepth 65536 in
set_option maxHeartbeats 40000000 in
theorem rm_from_97 {l : Launch} {Z : State} {a0 : Array Value} (hw : ∀ d ∈ tables_1, d.before a0 Z = true) (a b : Addr) (kb : ClassId) (a_DeleteAction_NO_ACTION : Addr) (a_DeletionRule_RESTRICT : Addr) (a_DeleteAction__VALUES : Addr) (a_DeleteAction_RESTRICT : Addr) (a_DeleteAction_CASCADE : Addr) (a_DeleteAction_SET_NULL : Addr) (a_DeleteAction_SET_DEFAULT : Addr) (a_DeleteAction_NO_ACTION_catalogCode : Addr) (a_DeleteAction_NO_ACTION_catalogCode_value : Addr) (a_DeletionRule_DETACH : Addr) (a_DeleteAction_RESTRICT_catalogCode : Addr) (a_DeleteAction_RESTRICT_catalogCode_value : Addr) (a_DeleteAction_CASCADE_catalogCode : Addr) (a_DeleteAction_CASCADE_catalogCode_value : Addr) (a_DeleteAction_SET_NULL_catalogCode : Addr) (a_DeleteAction_SET_NULL_catalogCode_value : Addr) (a_DeleteAction_SET_DEFAULT_catalogCode : Addr) (a_DeleteAction_SET_DEFAULT_catalogCode_value : Addr) (a_DeletionRule_CASCADE : Addr) (k_a_DeleteAction__VALUES : ClassId) (k_a_DeleteAction_NO_ACTION_catalogCode_value : ClassId) (k_a_DeleteAction_RESTRICT_catalogCode_value : ClassId) (k_a_DeleteAction_CASCADE_catalogCode_value : ClassId) (k_a_DeleteAction_SET_NULL_catalogCode_value : ClassId) (k_a_DeleteAction_SET_DEFAULT_catalogCode_value : ClassId) (h0 : Heap) (O0 : Ext Z.heap h0) (cz : Int32) (SCS : Sta Z Z.heap "java/lang/String" "COMPACT_STRINGS" "Z" (.int cz)) (hcz : ¬ cz = (0 : Int32)) (ft_2 : Sta Z Z.heap "com/example/scopa/scopa/schema/DeleteAction" "NO_ACTION" "Lcom/example/scopa/scopa/schema/DeleteAction;" (.ref a_DeleteAction_NO_ACTION)) (ft_5 : Sta Z Z.heap "com/example/scopa/scopa/schema/DeletionRule" "RESTRICT" "Lcom/example/scopa/scopa/schema/DeletionRule;" (.ref a_DeletionRule_RESTRICT)) (ft_8 : Sta Z Z.heap "com/example/scopa/scopa/schema/DeleteAction" "$VALUES" "[Lcom/example/scopa/scopa/schema/DeleteAction;" (.ref a_DeleteAction__VALUES)) (ft_15 : Sta Z Z.heap "com/example/scopa/scopa/schema/DeleteAction" "RESTRICT" "Lcom/example/scopa/scopa/schema/DeleteAction;" (.ref a_DeleteAction_RESTRICT)) (ft_20 : Sta Z Z.heap "com/example/scopa/scopa/schema/DeleteAction" "CASCADE" "Lcom/example/scopa/scopa/schema/DeleteAction;" (.ref a_DeleteAction_CASCADE)) (ft_25 : Sta Z Z.heap "com/example/scopa/scopa/schema/DeleteAction" "SET_NULL" "Lcom/example/scopa/scopa/schema/DeleteAction;" (.ref a_DeleteAction_SET_NULL)) (ft_30 : Sta Z Z.heap "com/example/scopa/scopa/schema/DeleteAction" "SET_DEFAULT" "Lcom/example/scopa/scopa/schema/DeleteAction;" (.ref a_DeleteAction_SET_DEFAULT)) (ft_48 : Sta Z Z.heap "com/example/scopa/scopa/schema/DeletionRule" "DETACH" "Lcom/example/scopa/scopa/schema/DeletionRule;" (.ref a_DeletionRule_DETACH)) (ft_101 : Sta Z Z.heap "com/example/scopa/scopa/schema/DeletionRule" "CASCADE" "Lcom/example/scopa/scopa/schema/DeletionRule;" (.ref a_DeletionRule_CASCADE)) (ex_3 : Exa Z Z.heap a_DeleteAction_NO_ACTION "com/example/scopa/scopa/schema/DeleteAction") (ex_6 : Exa Z Z.heap a_DeletionRule_RESTRICT "com/example/scopa/scopa/schema/DeletionRule") (ex_10 : Exa Z Z.heap a_DeleteAction__VALUES "[Lcom/example/scopa/scopa/schema/DeleteAction;") (ex_16 : Exa Z Z.heap a_DeleteAction_RESTRICT "com/example/scopa/scopa/schema/DeleteAction") (ex_21 : Exa Z Z.heap a_DeleteAction_CASCADE "com/example/scopa/scopa/schema/DeleteAction") (ex_26 : Exa Z Z.heap a_DeleteAction_SET_NULL "com/example/scopa/scopa/schema/DeleteAction") (ex_31 : Exa Z Z.heap a_DeleteAction_SET_DEFAULT "com/example/scopa/scopa/schema/DeleteAction") (ex_36 : Exa Z Z.heap a_DeleteAction_NO_ACTION_catalogCode "java/lang/String") (ex_49 : Exa Z Z.heap a_DeletionRule_DETACH "com/example/scopa/scopa/schema/DeletionRule") (ex_52 : Exa Z Z.heap a_DeleteAction_RESTRICT_catalogCode "java/lang/String") (ex_63 : Exa Z Z.heap a_DeleteAction_CASCADE_catalogCode "java/lang/String") (ex_74 : Exa Z Z.heap a_DeleteAction_SET_NULL_catalogCode "java/lang/String") (ex_89 : Exa Z Z.heap a_DeleteAction_SET_DEFAULT_catalogCode "java/lang/String") (ex_102 : Exa Z Z.heap a_DeletionRule_CASCADE "com/example/scopa/scopa/schema/DeletionRule") (ft_35 : Fld Z Z.heap a_DeleteAction_NO_ACTION "com/example/scopa/scopa/schema/DeleteAction" "catalogCode" "Ljava/lang/String;" (.ref a_DeleteAction_NO_ACTION_catalogCode)) (ft_38 : Fld Z Z.heap a_DeleteAction_NO_ACTION_catalogCode "java/lang/String" "coder" "B" (.int (0 : Int32))) (ft_40 : Fld Z Z.heap a_DeleteAction_NO_ACTION_catalogCode "java/lang/String" "value" "[B" (.ref a_DeleteAction_NO_ACTION_catalogCode_value)) (ft_46 : Fld Z Z.heap a_DeleteAction_NO_ACTION "com/example/scopa/scopa/schema/DeleteAction" "rule" "Lcom/example/scopa/scopa/schema/DeletionRule;" (.ref a_DeletionRule_RESTRICT)) (ft_51 : Fld Z Z.heap a_DeleteAction_RESTRICT "com/example/scopa/scopa/schema/DeleteAction" "catalogCode" "Ljava/lang/String;" (.ref a_DeleteAction_RESTRICT_catalogCode)) (ft_54 : Fld Z Z.heap a_DeleteAction_RESTRICT_catalogCode "java/lang/String" "coder" "B" (.int (0 : Int32))) (ft_56 : Fld Z Z.heap a_DeleteAction_RESTRICT_catalogCode "java/lang/String" "value" "[B" (.ref a_DeleteAction_RESTRICT_catalogCode_value)) (ft_62 : Fld Z Z.heap a_DeleteAction_CASCADE "com/example/scopa/scopa/schema/DeleteAction" "catalogCode" "Ljava/lang/String;" (.ref a_DeleteAction_CASCADE_catalogCode)) (ft_65 : Fld Z Z.heap a_DeleteAction_CASCADE_catalogCode "java/lang/String" "coder" "B" (.int (0 : Int32))) (ft_67 : Fld Z Z.heap a_DeleteAction_CASCADE_catalogCode "java/lang/String" "value" "[B" (.ref a_DeleteAction_CASCADE_catalogCode_value)) (ft_73 : Fld Z Z.heap a_DeleteAction_SET_NULL "com/example/scopa/scopa/schema/DeleteAction" "catalogCode" "Ljava/lang/String;" (.ref a_DeleteAction_SET_NULL_catalogCode)) (ft_76 : Fld Z Z.heap a_DeleteAction_SET_NULL_catalogCode "java/lang/String" "coder" "B" (.int (0 : Int32))) (ft_78 : Fld Z Z.heap a_DeleteAction_SET_NULL_catalogCode "java/lang/String" "value" "[B" (.ref a_DeleteAction_SET_NULL_catalogCode_value)) (ft_84 : Fld Z Z.heap a_DeleteAction_SET_NULL "com/example/scopa/scopa/schema/DeleteAction" "rule" "Lcom/example/scopa/scopa/schema/DeletionRule;" (.ref a_DeletionRule_DETACH)) (ft_86 : Fld Z Z.heap a_DeleteAction_RESTRICT "com/example/scopa/scopa/schema/DeleteAction" "rule" "Lcom/example/scopa/scopa/schema/DeletionRule;" (.ref a_DeletionRule_RESTRICT)) (ft_88 : Fld Z Z.heap a_DeleteAction_SET_DEFAULT "com/example/scopa/scopa/schema/DeleteAction" "catalogCode" "Ljava/lang/String;" (.ref a_DeleteAction_SET_DEFAULT_catalogCode)) (ft_91 : Fld Z Z.heap a_DeleteAction_SET_DEFAULT_catalogCode "java/lang/String" "coder" "B" (.int (0 : Int32))) (ft_93 : Fld Z Z.heap a_DeleteAction_SET_DEFAULT_catalogCode "java/lang/String" "value" "[B" (.ref a_DeleteAction_SET_DEFAULT_catalogCode_value)) (ft_99 : Fld Z Z.heap a_DeleteAction_SET_DEFAULT "com/example/scopa/scopa/schema/DeleteAction" "rule" "Lcom/example/scopa/scopa/schema/DeletionRule;" (.ref a_DeletionRule_DETACH)) (ft_104 : Fld Z Z.heap a_DeleteAction_CASCADE "com/example/scopa/scopa/schema/DeleteAction" "rule" "Lcom/example/scopa/scopa/schema/DeletionRule;" (.ref a_DeletionRule_CASCADE)) (av_105 : Arv Z Z.heap a_DeleteAction__VALUES k_a_DeleteAction__VALUES (.object "com/example/scopa/scopa/schema/DeleteAction") (5 : Int32) [(.ref a_DeleteAction_NO_ACTION), (.ref a_DeleteAction_RESTRICT), (.ref a_DeleteAction_CASCADE), (.ref a_DeleteAction_SET_NULL), (.ref a_DeleteAction_SET_DEFAULT)] .null) (av_106 : Arv Z Z.heap a_DeleteAction_NO_ACTION_catalogCode_value k_a_DeleteAction_NO_ACTION_catalogCode_value .byte (1 : Int32) [(.int (97 : Int32))] (.int 0)) (av_107 : Arv Z Z.heap a_DeleteAction_RESTRICT_catalogCode_value k_a_DeleteAction_RESTRICT_catalogCode_value .byte (1 : Int32) [(.int (114 : Int32))] (.int 0)) (av_108 : Arv Z Z.heap a_DeleteAction_CASCADE_catalogCode_value k_a_DeleteAction_CASCADE_catalogCode_value .byte (1 : Int32) [(.int (99 : Int32))] (.int 0)) (av_109 : Arv Z Z.heap a_DeleteAction_SET_NULL_catalogCode_value k_a_DeleteAction_SET_NULL_catalogCode_value .byte (1 : Int32) [(.int (110 : Int32))] (.int 0)) (av_110 : Arv Z Z.heap a_DeleteAction_SET_DEFAULT_catalogCode_value k_a_DeleteAction_SET_DEFAULT_catalogCode_value .byte (1 : Int32) [(.int (100 : Int32))] (.int 0)) (f0 : Z.heap.size ≤ a) (Ea : Exa Z h0 a "java/lang/String") (Fv : Fld Z h0 a "java/lang/String" "value" "[B" (.ref b)) (Fc : Fld Z h0 a "java/lang/String" "coder" "B" (.int 0)) (Vb : Arv Z h0 b kb .byte (1 : Int32) [(.int (97 : Int32))] (.int 0)) :
    Con l (⟨"com/example/scopa/scopa/schema/DeleteAction", "fromCatalogCode", "(Ljava/lang/String;)Lcom/example/scopa/scopa/schema/DeleteAction;"⟩ : MethodName) prog_10_method_4_code 5 (some (.object "com/example/scopa/scopa/schema/DeleteAction")) ({ frames := 2, cells := 1, slots := 5, locals := 28 } : Room) Z #[(.ref a)] h0 (fun v h L => v = some (.ref a_DeleteAction_NO_ACTION) ∧ Fr Z.heap.size L ∧ Keep h0 h []) := by
  refine Con.of (plainFor_of_name pn_8) (Ls := #[.val (.ref a), .unset, .unset, .unset, .unset]) (fun m => by first | rfl | (simp [entryFrame, mkF, argsToLocals, Value.category]; done)) ?_
  intro p e s m below meth c T0 X0 hx hZ hby hml hown hnm hret hlk e0
  refine cStat X0 hx hZ hown (by rw [hml]; rfl) e0 (hw _ (List.mem_of_getElem? (i := 40) rfl)) (hw _ (List.mem_of_getElem? (i := 41) rfl)) (hw _ (List.mem_of_getElem? (i := 2) rfl)) (hw _ (List.mem_of_getElem? (i := 42) rfl)) [] [] rfl (rm_values hw a_DeleteAction_NO_ACTION a_DeletionRule_RESTRICT a_DeleteAction__VALUES a_DeleteAction_RESTRICT a_DeleteAction_CASCADE a_DeleteAction_SET_NULL a_DeleteAction_SET_DEFAULT a_DeleteAction_NO_ACTION_catalogCode a_DeleteAction_NO_ACTION_catalogCode_value a_DeletionRule_DETACH a_DeleteAction_RESTRICT_catalogCode a_DeleteAction_RESTRICT_catalogCode_value a_DeleteAction_CASCADE_catalogCode a_DeleteAction_CASCADE_catalogCode_value a_DeleteAction_SET_NULL_catalogCode a_DeleteAction_SET_NULL_catalogCode_value a_DeleteAction_SET_DEFAULT_catalogCode a_DeleteAction_SET_DEFAULT_catalogCode_value a_DeletionRule_CASCADE k_a_DeleteAction__VALUES k_a_DeleteAction_NO_ACTION_catalogCode_value k_a_DeleteAction_RESTRICT_catalogCode_value k_a_DeleteAction_CASCADE_catalogCode_value k_a_DeleteAction_SET_NULL_catalogCode_value k_a_DeleteAction_SET_DEFAULT_catalogCode_value _ O0 ft_2 ft_5 ft_8 ft_15 ft_20 ft_25 ft_30 ft_48 ft_101 ex_3 ex_6 ex_10 ex_16 ex_21 ex_26 ex_31 ex_36 ex_49 ex_52 ex_63 ex_74 ex_89 ex_102 ft_35 ft_38 ft_40 ft_46 ft_51 ft_54 ft_56 ft_62 ft_65 ft_67 ft_73 ft_76 ft_78 ft_84 ft_86 ft_88 ft_91 ft_93 ft_99 ft_104 av_105 av_106 av_107 av_108 av_109 av_110) (hb hby d_prog_10_method_4_0) rfl (lenOf pd_9 rfl) (by decide) (by decide) (Nat.le_of_ble_eq_true rfl) (by decide) (by decide) ?_
  rintro v65 T65 h65 L65 X65 e65 ⟨b65, rfl, N65, K65, g65, V65⟩
  have N65a := Fr.app (Fr.nil _) N65
  have n66 : a ≠ b65 := Nat.ne_of_lt (Nat.lt_of_lt_of_le (Ea.lt) g65)
  have n67 : b ≠ b65 := Nat.ne_of_lt (Nat.lt_of_lt_of_le (Vb.lt) g65)
  have f68 : Z.heap.size ≤ b65 := Nat.le_trans (O0).1 g65
  have K69 : Keep h0 h0 [] := (Keep.refl _ _)
  have b68 : h0.size ≤ b65 := Nat.le_trans (K69).1 g65
  have O70 : Ext Z.heap h65 := xk O0 K65 all0
  show Ends p e below s _ _ _ T65 (mkF m 3 #[.val (.ref a), .unset, .unset, .unset, .unset] [(.ref b65)])
  refine go (fun _ => XS.astoreN X65.here hx rfl (hb hby d_prog_10_method_4_3) rfl rfl (l' := #[.val (.ref a), .val (.ref b65), .unset, .unset, .unset]) rfl) ?_
  show Ends p e below s _ _ _ T65 (mkF m 4 #[.val (.ref a), .val (.ref b65), .unset, .unset, .unset] [])
  refine go (fun _ => XS.aloadN X65.here hx rfl (hb hby d_prog_10_method_4_4) rfl rfl) ?_
  show Ends p e below s _ _ _ T65 (mkF m 5 #[.val (.ref a), .val (.ref b65), .unset, .unset, .unset] [(.ref b65)])
  obtain ⟨c71, A71, -, S71, M71, -⟩ := id V65
  refine go (fun _ => X65.arraylength hx (cell := c71) (by rw [e65]; exact A71.1) (State.isArrayOf_alike hZ.alike A71.2.1) (g := (mkF m 5 #[.val (.ref a), .val (.ref b65), .unset, .unset, .unset] [(.ref b65)])) rfl rfl (hb hby d_prog_10_method_4_5) _) ?_
  rw [len_of S71 M71]
  show Ends p e below s _ _ _ T65 (mkF m 6 #[.val (.ref a), .val (.ref b65), .unset, .unset, .unset] [(.int (5 : Int32))])
  refine go (fun _ => XS.istoreN X65.here hx rfl (hb hby d_prog_10_method_4_6) rfl (l' := #[.val (.ref a), .val (.ref b65), .val (.int (5 : Int32)), .unset, .unset]) rfl) ?_
  show Ends p e below s _ _ _ T65 (mkF m 7 #[.val (.ref a), .val (.ref b65), .val (.int (5 : Int32)), .unset, .unset] [])
  refine go (fun _ => XT.iconstV X65.here hx rfl (0 : Int32) (hb hby d_prog_10_method_4_7) (by decide)) ?_
  show Ends p e below s _ _ _ T65 (mkF m 8 #[.val (.ref a), .val (.ref b65), .val (.int (5 : Int32)), .unset, .unset] [(.int (0 : Int32))])
  refine go (fun _ => XS.istoreN X65.here hx rfl (hb hby d_prog_10_method_4_8) rfl (l' := #[.val (.ref a), .val (.ref b65), .val (.int (5 : Int32)), .val (.int (0 : Int32)), .unset]) rfl) ?_
  show Ends p e below s _ _ _ T65 (mkF m 9 #[.val (.ref a), .val (.ref b65), .val (.int (5 : Int32)), .val (.int (0 : Int32)), .unset] [])
  refine go (fun _ => XS.iloadN X65.here hx rfl (hb hby d_prog_10_method_4_9) rfl) ?_
  show Ends p e below s _ _ _ T65 (mkF m 10 #[.val (.ref a), .val (.ref b65), .val (.int (5 : Int32)), .val (.int (0 : Int32)), .unset] [(.int (0 : Int32))])
  refine go (fun _ => XS.iloadN X65.here hx rfl (hb hby d_prog_10_method_4_10) rfl) ?_
  show Ends p e below s _ _ _ T65 (mkF m 11 #[.val (.ref a), .val (.ref b65), .val (.int (5 : Int32)), .val (.int (0 : Int32)), .unset] [(.int (5 : Int32)), (.int (0 : Int32))])
  refine go (fun _ => XS.icmpNo X65.here hx rfl (hb hby d_prog_10_method_4_11) rfl (XT.ii_ge_f ((by decide) : (0 : Int32) < (5 : Int32)))) ?_
  show Ends p e below s _ _ _ T65 (mkF m 14 #[.val (.ref a), .val (.ref b65), .val (.int (5 : Int32)), .val (.int (0 : Int32)), .unset] [])
  refine go (fun _ => XS.aloadN X65.here hx rfl (hb hby d_prog_10_method_4_14) rfl rfl) ?_
  show Ends p e below s _ _ _ T65 (mkF m 15 #[.val (.ref a), .val (.ref b65), .val (.int (5 : Int32)), .val (.int (0 : Int32)), .unset] [(.ref b65)])
  refine go (fun _ => XS.iloadN X65.here hx rfl (hb hby d_prog_10_method_4_15) rfl) ?_
  show Ends p e below s _ _ _ T65 (mkF m 16 #[.val (.ref a), .val (.ref b65), .val (.int (5 : Int32)), .val (.int (0 : Int32)), .unset] [(.int (0 : Int32)), (.ref b65)])
  obtain ⟨c72, A72, -, S72, M72, H72, -⟩ := id V65
  have B72 := inb_of S72 (j := (0 : Int32)) (by decide)
  refine go (fun _ => X65.aaload hx (j := (0 : Int32)) (v := (.ref a_DeleteAction_NO_ACTION)) (by rw [e65]; exact A72.1) (State.isArrayOf_alike hZ.alike A72.2.1) rfl A72.2.2 B72 (H72.at B72 rfl) (g := (mkF m 16 #[.val (.ref a), .val (.ref b65), .val (.int (5 : Int32)), .val (.int (0 : Int32)), .unset] [(.int (0 : Int32)), (.ref b65)])) rfl rfl (hb hby d_prog_10_method_4_16) _) ?_
  show Ends p e below s _ _ _ T65 (mkF m 17 #[.val (.ref a), .val (.ref b65), .val (.int (5 : Int32)), .val (.int (0 : Int32)), .unset] [(.ref a_DeleteAction_NO_ACTION)])
  refine go (fun _ => XS.astore X65.here hx rfl (hb hby d_prog_10_method_4_17) rfl rfl (l' := #[.val (.ref a), .val (.ref b65), .val (.int (5 : Int32)), .val (.int (0 : Int32)), .val (.ref a_DeleteAction_NO_ACTION)]) rfl) ?_
  show Ends p e below s _ _ _ T65 (mkF m 19 #[.val (.ref a), .val (.ref b65), .val (.int (5 : Int32)), .val (.int (0 : Int32)), .val (.ref a_DeleteAction_NO_ACTION)] [])
  refine go (fun _ => XS.aload X65.here hx rfl (hb hby d_prog_10_method_4_19) rfl rfl) ?_
  show Ends p e below s _ _ _ T65 (mkF m 21 #[.val (.ref a), .val (.ref b65), .val (.int (5 : Int32)), .val (.int (0 : Int32)), .val (.ref a_DeleteAction_NO_ACTION)] [(.ref a_DeleteAction_NO_ACTION)])
  obtain ⟨T73, X73, e73, s73⟩ := getF X65 hx hZ hown (host := "") (Or.inl (hw _ (List.mem_of_getElem? (i := 59) rfl))) Via.refl e65 (Fld.ext O70 ft_35) (g := (mkF m 21 #[.val (.ref a), .val (.ref b65), .val (.int (5 : Int32)), .val (.int (0 : Int32)), .val (.ref a_DeleteAction_NO_ACTION)] [(.ref a_DeleteAction_NO_ACTION)])) rfl rfl (hb hby d_prog_10_method_4_21)
  refine go s73 ?_
  show Ends p e below s _ _ _ T73 (mkF m 24 #[.val (.ref a), .val (.ref b65), .val (.int (5 : Int32)), .val (.int (0 : Int32)), .val (.ref a_DeleteAction_NO_ACTION)] [(.ref a_DeleteAction_NO_ACTION_catalogCode)])
  refine go (fun _ => XS.aloadN X73.here hx rfl (hb hby d_prog_10_method_4_24) rfl rfl) ?_
  show Ends p e below s _ _ _ T73 (mkF m 25 #[.val (.ref a), .val (.ref b65), .val (.int (5 : Int32)), .val (.int (0 : Int32)), .val (.ref a_DeleteAction_NO_ACTION)] [(.ref a), (.ref a_DeleteAction_NO_ACTION_catalogCode)])
  have F74 := (Exa.keep Ea K65)
  have F75 := (Fld.keep Fv K65 nin0)
  have F76 := (Fld.keep Fc K65 nin0)
  have F77 := (Arv.keep Vb K65 nin0)
  refine cVirt X73 hx hZ hown (by rw [hml]; rfl) e73 (hw _ (List.mem_of_getElem? (i := 61) rfl)) (hw _ (List.mem_of_getElem? (i := 62) rfl)) (hw _ (List.mem_of_getElem? (i := 64) rfl)) (hw _ (List.mem_of_getElem? (i := 63) rfl)) (hw _ (List.mem_of_getElem? (i := 10) rfl)) (hw _ (List.mem_of_getElem? (i := 65) rfl)) (notFace_of_selects (args := #[]) (mvT hZ (hw _ (List.mem_of_getElem? (i := 64) rfl)))) a_DeleteAction_NO_ACTION_catalogCode (Exa.ext O70 ex_36) [(.ref a)] [] rfl (rm_streq_1_1 hw a_DeleteAction_NO_ACTION_catalogCode a a_DeleteAction_NO_ACTION_catalogCode_value b k_a_DeleteAction_NO_ACTION_catalogCode_value kb (97 : Int32) (97 : Int32) _ O70 (fun q => absurd (Nat.lt_of_lt_of_le (ex_36).lt f0) (by rw [q]; exact Nat.lt_irrefl _)) F74 cz SCS hcz (Fld.ext O70 ft_40) (Fld.ext O70 ft_38) F75 F76 (Arv.ext av_106 O70) F77) (hb hby d_prog_10_method_4_25) rfl (lenOf pd_10 rfl) (by decide) (by decide) (Nat.le_of_ble_eq_true rfl) (by decide) (by decide) ?_
  rintro v78 T78 h78 L78 X78 e78 ⟨rfl, N78, rfl⟩
  have N78a := Fr.app N65a N78
  show Ends p e below s _ _ _ T78 (mkF m 28 #[.val (.ref a), .val (.ref b65), .val (.int (5 : Int32)), .val (.int (0 : Int32)), .val (.ref a_DeleteAction_NO_ACTION)] [(.int (if (97 : Int32) = (97 : Int32) then (1 : Int32) else (0 : Int32)))])
  show Ends p e below s _ _ _ T78 (mkF m 28 #[.val (.ref a), .val (.ref b65), .val (.int (5 : Int32)), .val (.int (0 : Int32)), .val (.ref a_DeleteAction_NO_ACTION)] [(.int (1 : Int32))])
  refine go (fun _ => XS.ifNo X78.here hx rfl (hb hby d_prog_10_method_4_28) rfl (XT.i0_eq_f ((by decide) : ¬ ((1 : Int32) = (0 : Int32))))) ?_
  show Ends p e below s _ _ _ T78 (mkF m 31 #[.val (.ref a), .val (.ref b65), .val (.int (5 : Int32)), .val (.int (0 : Int32)), .val (.ref a_DeleteAction_NO_ACTION)] [])
  refine go (fun _ => XS.aload X78.here hx rfl (hb hby d_prog_10_method_4_31) rfl rfl) ?_
  show Ends p e below s _ _ _ T78 (mkF m 33 #[.val (.ref a), .val (.ref b65), .val (.int (5 : Int32)), .val (.int (0 : Int32)), .val (.ref a_DeleteAction_NO_ACTION)] [(.ref a_DeleteAction_NO_ACTION)])
  have K79 : Keep h0 h65 [] := (Keep.trans K69 K65 all0)
  exact endA X78 hx hlk hret rfl rfl (hb hby d_prog_10_method_4_33) e78 ⟨rfl, N78a, K79⟩ (by decide) (by decide)
set_option maxRecDepth 65536 in
set_option maxHeartbeats 40000000 in
theorem rm_from_114 {l : Launch} {Z : State} {a0 : Array Value} (hw : ∀ d ∈ tables_1, d.before a0 Z = true) (a b : Addr) (kb : ClassId) (a_DeleteAction_NO_ACTION : Addr) (a_DeletionRule_RESTRICT : Addr) (a_DeleteAction__VALUES : Addr) (a_DeleteAction_RESTRICT : Addr) (a_DeleteAction_CASCADE : Addr) (a_DeleteAction_SET_NULL : Addr) (a_DeleteAction_SET_DEFAULT : Addr) (a_DeleteAction_NO_ACTION_catalogCode : Addr) (a_DeleteAction_NO_ACTION_catalogCode_value : Addr) (a_DeletionRule_DETACH : Addr) (a_DeleteAction_RESTRICT_catalogCode : Addr) (a_DeleteAction_RESTRICT_catalogCode_value : Addr) (a_DeleteAction_CASCADE_catalogCode : Addr) (a_DeleteAction_CASCADE_catalogCode_value : Addr) (a_DeleteAction_SET_NULL_catalogCode : Addr) (a_DeleteAction_SET_NULL_catalogCode_value : Addr) (a_DeleteAction_SET_DEFAULT_catalogCode : Addr) (a_DeleteAction_SET_DEFAULT_catalogCode_value : Addr) (a_DeletionRule_CASCADE : Addr) (k_a_DeleteAction__VALUES : ClassId) (k_a_DeleteAction_NO_ACTION_catalogCode_value : ClassId) (k_a_DeleteAction_RESTRICT_catalogCode_value : ClassId) (k_a_DeleteAction_CASCADE_catalogCode_value : ClassId) (k_a_DeleteAction_SET_NULL_catalogCode_value : ClassId) (k_a_DeleteAction_SET_DEFAULT_catalogCode_value : ClassId) (h0 : Heap) (O0 : Ext Z.heap h0) (cz : Int32) (SCS : Sta Z Z.heap "java/lang/String" "COMPACT_STRINGS" "Z" (.int cz)) (hcz : ¬ cz = (0 : Int32)) (ft_2 : Sta Z Z.heap "com/example/scopa/scopa/schema/DeleteAction" "NO_ACTION" "Lcom/example/scopa/scopa/schema/DeleteAction;" (.ref a_DeleteAction_NO_ACTION)) (ft_5 : Sta Z Z.heap "com/example/scopa/scopa/schema/DeletionRule" "RESTRICT" "Lcom/example/scopa/scopa/schema/DeletionRule;" (.ref a_DeletionRule_RESTRICT)) (ft_8 : Sta Z Z.heap "com/example/scopa/scopa/schema/DeleteAction" "$VALUES" "[Lcom/example/scopa/scopa/schema/DeleteAction;" (.ref a_DeleteAction__VALUES)) (ft_15 : Sta Z Z.heap "com/example/scopa/scopa/schema/DeleteAction" "RESTRICT" "Lcom/example/scopa/scopa/schema/DeleteAction;" (.ref a_DeleteAction_RESTRICT)) (ft_20 : Sta Z Z.heap "com/example/scopa/scopa/schema/DeleteAction" "CASCADE" "Lcom/example/scopa/scopa/schema/DeleteAction;" (.ref a_DeleteAction_CASCADE)) (ft_25 : Sta Z Z.heap "com/example/scopa/scopa/schema/DeleteAction" "SET_NULL" "Lcom/example/scopa/scopa/schema/DeleteAction;" (.ref a_DeleteAction_SET_NULL)) (ft_30 : Sta Z Z.heap "com/example/scopa/scopa/schema/DeleteAction" "SET_DEFAULT" "Lcom/example/scopa/scopa/schema/DeleteAction;" (.ref a_DeleteAction_SET_DEFAULT)) (ft_48 : Sta Z Z.heap "com/example/scopa/scopa/schema/DeletionRule" "DETACH" "Lcom/example/scopa/scopa/schema/DeletionRule;" (.ref a_DeletionRule_DETACH)) (ft_101 : Sta Z Z.heap "com/example/scopa/scopa/schema/DeletionRule" "CASCADE" "Lcom/example/scopa/scopa/schema/DeletionRule;" (.ref a_DeletionRule_CASCADE)) (ex_3 : Exa Z Z.heap a_DeleteAction_NO_ACTION "com/example/scopa/scopa/schema/DeleteAction") (ex_6 : Exa Z Z.heap a_DeletionRule_RESTRICT "com/example/scopa/scopa/schema/DeletionRule") (ex_10 : Exa Z Z.heap a_DeleteAction__VALUES "[Lcom/example/scopa/scopa/schema/DeleteAction;") (ex_16 : Exa Z Z.heap a_DeleteAction_RESTRICT "com/example/scopa/scopa/schema/DeleteAction") (ex_21 : Exa Z Z.heap a_DeleteAction_CASCADE "com/example/scopa/scopa/schema/DeleteAction") (ex_26 : Exa Z Z.heap a_DeleteAction_SET_NULL "com/example/scopa/scopa/schema/DeleteAction") (ex_31 : Exa Z Z.heap a_DeleteAction_SET_DEFAULT "com/example/scopa/scopa/schema/DeleteAction") (ex_36 : Exa Z Z.heap a_DeleteAction_NO_ACTION_catalogCode "java/lang/String") (ex_49 : Exa Z Z.heap a_DeletionRule_DETACH "com/example/scopa/scopa/schema/DeletionRule") (ex_52 : Exa Z Z.heap a_DeleteAction_RESTRICT_catalogCode "java/lang/String") (ex_63 : Exa Z Z.heap a_DeleteAction_CASCADE_catalogCode "java/lang/String") (ex_74 : Exa Z Z.heap a_DeleteAction_SET_NULL_catalogCode "java/lang/String") (ex_89 : Exa Z Z.heap a_DeleteAction_SET_DEFAULT_catalogCode "java/lang/String") (ex_102 : Exa Z Z.heap a_DeletionRule_CASCADE "com/example/scopa/scopa/schema/DeletionRule") (ft_35 : Fld Z Z.heap a_DeleteAction_NO_ACTION "com/example/scopa/scopa/schema/DeleteAction" "catalogCode" "Ljava/lang/String;" (.ref a_DeleteAction_NO_ACTION_catalogCode)) (ft_38 : Fld Z Z.heap a_DeleteAction_NO_ACTION_catalogCode "java/lang/String" "coder" "B" (.int (0 : Int32))) (ft_40 : Fld Z Z.heap a_DeleteAction_NO_ACTION_catalogCode "java/lang/String" "value" "[B" (.ref a_DeleteAction_NO_ACTION_catalogCode_value)) (ft_46 : Fld Z Z.heap a_DeleteAction_NO_ACTION "com/example/scopa/scopa/schema/DeleteAction" "rule" "Lcom/example/scopa/scopa/schema/DeletionRule;" (.ref a_DeletionRule_RESTRICT)) (ft_51 : Fld Z Z.heap a_DeleteAction_RESTRICT "com/example/scopa/scopa/schema/DeleteAction" "catalogCode" "Ljava/lang/String;" (.ref a_DeleteAction_RESTRICT_catalogCode)) (ft_54 : Fld Z Z.heap a_DeleteAction_RESTRICT_catalogCode "java/lang/String" "coder" "B" (.int (0 : Int32))) (ft_56 : Fld Z Z.heap a_DeleteAction_RESTRICT_catalogCode "java/lang/String" "value" "[B" (.ref a_DeleteAction_RESTRICT_catalogCode_value)) (ft_62 : Fld Z Z.heap a_DeleteAction_CASCADE "com/example/scopa/scopa/schema/DeleteAction" "catalogCode" "Ljava/lang/String;" (.ref a_DeleteAction_CASCADE_catalogCode)) (ft_65 : Fld Z Z.heap a_DeleteAction_CASCADE_catalogCode "java/lang/String" "coder" "B" (.int (0 : Int32))) (ft_67 : Fld Z Z.heap a_DeleteAction_CASCADE_catalogCode "java/lang/String" "value" "[B" (.ref a_DeleteAction_CASCADE_catalogCode_value)) (ft_73 : Fld Z Z.heap a_DeleteAction_SET_NULL "com/example/scopa/scopa/schema/DeleteAction" "catalogCode" "Ljava/lang/String;" (.ref a_DeleteAction_SET_NULL_catalogCode)) (ft_76 : Fld Z Z.heap a_DeleteAction_SET_NULL_catalogCode "java/lang/String" "coder" "B" (.int (0 : Int32))) (ft_78 : Fld Z Z.heap a_DeleteAction_SET_NULL_catalogCode "java/lang/String" "value" "[B" (.ref a_DeleteAction_SET_NULL_catalogCode_value)) (ft_84 : Fld Z Z.heap a_DeleteAction_SET_NULL "com/example/scopa/scopa/schema/DeleteAction" "rule" "Lcom/example/scopa/scopa/schema/DeletionRule;" (.ref a_DeletionRule_DETACH)) (ft_86 : Fld Z Z.heap a_DeleteAction_RESTRICT "com/example/scopa/scopa/schema/DeleteAction" "rule" "Lcom/example/scopa/scopa/schema/DeletionRule;" (.ref a_DeletionRule_RESTRICT)) (ft_88 : Fld Z Z.heap a_DeleteAction_SET_DEFAULT "com/example/scopa/scopa/schema/DeleteAction" "catalogCode" "Ljava/lang/String;" (.ref a_DeleteAction_SET_DEFAULT_catalogCode)) (ft_91 : Fld Z Z.heap a_DeleteAction_SET_DEFAULT_catalogCode "java/lang/String" "coder" "B" (.int (0 : Int32))) (ft_93 : Fld Z Z.heap a_DeleteAction_SET_DEFAULT_catalogCode "java/lang/String" "value" "[B" (.ref a_DeleteAction_SET_DEFAULT_catalogCode_value)) (ft_99 : Fld Z Z.heap a_DeleteAction_SET_DEFAULT "com/example/scopa/scopa/schema/DeleteAction" "rule" "Lcom/example/scopa/scopa/schema/DeletionRule;" (.ref a_DeletionRule_DETACH)) (ft_104 : Fld Z Z.heap a_DeleteAction_CASCADE "com/example/scopa/scopa/schema/DeleteAction" "rule" "Lcom/example/scopa/scopa/schema/DeletionRule;" (.ref a_DeletionRule_CASCADE)) (av_105 : Arv Z Z.heap a_DeleteAction__VALUES k_a_DeleteAction__VALUES (.object "com/example/scopa/scopa/schema/DeleteAction") (5 : Int32) [(.ref a_DeleteAction_NO_ACTION), (.ref a_DeleteAction_RESTRICT), (.ref a_DeleteAction_CASCADE), (.ref a_DeleteAction_SET_NULL), (.ref a_DeleteAction_SET_DEFAULT)] .null) (av_106 : Arv Z Z.heap a_DeleteAction_NO_ACTION_catalogCode_value k_a_DeleteAction_NO_ACTION_catalogCode_value .byte (1 : Int32) [(.int (97 : Int32))] (.int 0)) (av_107 : Arv Z Z.heap a_DeleteAction_RESTRICT_catalogCode_value k_a_DeleteAction_RESTRICT_catalogCode_value .byte (1 : Int32) [(.int (114 : Int32))] (.int 0)) (av_108 : Arv Z Z.heap a_DeleteAction_CASCADE_catalogCode_value k_a_DeleteAction_CASCADE_catalogCode_value .byte (1 : Int32) [(.int (99 : Int32))] (.int 0)) (av_109 : Arv Z Z.heap a_DeleteAction_SET_NULL_catalogCode_value k_a_DeleteAction_SET_NULL_catalogCode_value .byte (1 : Int32) [(.int (110 : Int32))] (.int 0)) (av_110 : Arv Z Z.heap a_DeleteAction_SET_DEFAULT_catalogCode_value k_a_DeleteAction_SET_DEFAULT_catalogCode_value .byte (1 : Int32) [(.int (100 : Int32))] (.int 0)) (f0 : Z.heap.size ≤ a) (Ea : Exa Z h0 a "java/lang/String") (Fv : Fld Z h0 a "java/lang/String" "value" "[B" (.ref b)) (Fc : Fld Z h0 a "java/lang/String" "coder" "B" (.int 0)) (Vb : Arv Z h0 b kb .byte (1 : Int32) [(.int (114 : Int32))] (.int 0)) :
    Con l (⟨"com/example/scopa/scopa/schema/DeleteAction", "fromCatalogCode", "(Ljava/lang/String;)Lcom/example/scopa/scopa/schema/DeleteAction;"⟩ : MethodName) prog_10_method_4_code 5 (some (.object "com/example/scopa/scopa/schema/DeleteAction")) ({ frames := 2, cells := 1, slots := 5, locals := 28 } : Room) Z #[(.ref a)] h0 (fun v h L => v = some (.ref a_DeleteAction_RESTRICT) ∧ Fr Z.heap.size L ∧ Keep h0 h []) := by
  refine Con.of (plainFor_of_name pn_8) (Ls := #[.val (.ref a), .unset, .unset, .unset, .unset]) (fun m => by first | rfl | (simp [entryFrame, mkF, argsToLocals, Value.category]; done)) ?_
  intro p e s m below meth c T0 X0 hx hZ hby hml hown hnm hret hlk e0
  refine cStat X0 hx hZ hown (by rw [hml]; rfl) e0 (hw _ (List.mem_of_getElem? (i := 40) rfl)) (hw _ (List.mem_of_getElem? (i := 41) rfl)) (hw _ (List.mem_of_getElem? (i := 2) rfl)) (hw _ (List.mem_of_getElem? (i := 42) rfl)) [] [] rfl (rm_values hw a_DeleteAction_NO_ACTION a_DeletionRule_RESTRICT a_DeleteAction__VALUES a_DeleteAction_RESTRICT a_DeleteAction_CASCADE a_DeleteAction_SET_NULL a_DeleteAction_SET_DEFAULT a_DeleteAction_NO_ACTION_catalogCode a_DeleteAction_NO_ACTION_catalogCode_value a_DeletionRule_DETACH a_DeleteAction_RESTRICT_catalogCode a_DeleteAction_RESTRICT_catalogCode_value a_DeleteAction_CASCADE_catalogCode a_DeleteAction_CASCADE_catalogCode_value a_DeleteAction_SET_NULL_catalogCode a_DeleteAction_SET_NULL_catalogCode_value a_DeleteAction_SET_DEFAULT_catalogCode a_DeleteAction_SET_DEFAULT_catalogCode_value a_DeletionRule_CASCADE k_a_DeleteAction__VALUES k_a_DeleteAction_NO_ACTION_catalogCode_value k_a_DeleteAction_RESTRICT_catalogCode_value k_a_DeleteAction_CASCADE_catalogCode_value k_a_DeleteAction_SET_NULL_catalogCode_value k_a_DeleteAction_SET_DEFAULT_catalogCode_value _ O0 ft_2 ft_5 ft_8 ft_15 ft_20 ft_25 ft_30 ft_48 ft_101 ex_3 ex_6 ex_10 ex_16 ex_21 ex_26 ex_31 ex_36 ex_49 ex_52 ex_63 ex_74 ex_89 ex_102 ft_35 ft_38 ft_40 ft_46 ft_51 ft_54 ft_56 ft_62 ft_65 ft_67 ft_73 ft_76 ft_78 ft_84 ft_86 ft_88 ft_91 ft_93 ft_99 ft_104 av_105 av_106 av_107 av_108 av_109 av_110) (hb hby d_prog_10_method_4_0) rfl (lenOf pd_9 rfl) (by decide) (by decide) (Nat.le_of_ble_eq_true rfl) (by decide) (by decide) ?_
  rintro v80 T80 h80 L80 X80 e80 ⟨b80, rfl, N80, K80, g80, V80⟩
  have N80a := Fr.app (Fr.nil _) N80
  have n81 : a ≠ b80 := Nat.ne_of_lt (Nat.lt_of_lt_of_le (Ea.lt) g80)
  have n82 : b ≠ b80 := Nat.ne_of_lt (Nat.lt_of_lt_of_le (Vb.lt) g80)
  have f83 : Z.heap.size ≤ b80 := Nat.le_trans (O0).1 g80
  have K84 : Keep h0 h0 [] := (Keep.refl _ _)
  have b83 : h0.size ≤ b80 := Nat.le_trans (K84).1 g80
  have O85 : Ext Z.heap h80 := xk O0 K80 all0
  show Ends p e below s _ _ _ T80 (mkF m 3 #[.val (.ref a), .unset, .unset, .unset, .unset] [(.ref b80)])
  refine go (fun _ => XS.astoreN X80.here hx rfl (hb hby d_prog_10_method_4_3) rfl rfl (l' := #[.val (.ref a), .val (.ref b80), .unset, .unset, .unset]) rfl) ?_
  show Ends p e below s _ _ _ T80 (mkF m 4 #[.val (.ref a), .val (.ref b80), .unset, .unset, .unset] [])
  refine go (fun _ => XS.aloadN X80.here hx rfl (hb hby d_prog_10_method_4_4) rfl rfl) ?_
  show Ends p e below s _ _ _ T80 (mkF m 5 #[.val (.ref a), .val (.ref b80), .unset, .unset, .unset] [(.ref b80)])
  obtain ⟨c86, A86, -, S86, M86, -⟩ := id V80
  refine go (fun _ => X80.arraylength hx (cell := c86) (by rw [e80]; exact A86.1) (State.isArrayOf_alike hZ.alike A86.2.1) (g := (mkF m 5 #[.val (.ref a), .val (.ref b80), .unset, .unset, .unset] [(.ref b80)])) rfl rfl (hb hby d_prog_10_method_4_5) _) ?_
  rw [len_of S86 M86]
  show Ends p e below s _ _ _ T80 (mkF m 6 #[.val (.ref a), .val (.ref b80), .unset, .unset, .unset] [(.int (5 : Int32))])
  refine go (fun _ => XS.istoreN X80.here hx rfl (hb hby d_prog_10_method_4_6) rfl (l' := #[.val (.ref a), .val (.ref b80), .val (.int (5 : Int32)), .unset, .unset]) rfl) ?_
  show Ends p e below s _ _ _ T80 (mkF m 7 #[.val (.ref a), .val (.ref b80), .val (.int (5 : Int32)), .unset, .unset] [])
  refine go (fun _ => XT.iconstV X80.here hx rfl (0 : Int32) (hb hby d_prog_10_method_4_7) (by decide)) ?_
  show Ends p e below s _ _ _ T80 (mkF m 8 #[.val (.ref a), .val (.ref b80), .val (.int (5 : Int32)), .unset, .unset] [(.int (0 : Int32))])
  refine go (fun _ => XS.istoreN X80.here hx rfl (hb hby d_prog_10_method_4_8) rfl (l' := #[.val (.ref a), .val (.ref b80), .val (.int (5 : Int32)), .val (.int (0 : Int32)), .unset]) rfl) ?_
  show Ends p e below s _ _ _ T80 (mkF m 9 #[.val (.ref a), .val (.ref b80), .val (.int (5 : Int32)), .val (.int (0 : Int32)), .unset] [])
  refine go (fun _ => XS.iloadN X80.here hx rfl (hb hby d_prog_10_method_4_9) rfl) ?_
  show Ends p e below s _ _ _ T80 (mkF m 10 #[.val (.ref a), .val (.ref b80), .val (.int (5 : Int32)), .val (.int (0 : Int32)), .unset] [(.int (0 : Int32))])
  refine go (fun _ => XS.iloadN X80.here hx rfl (hb hby d_prog_10_method_4_10) rfl) ?_
  show Ends p e below s _ _ _ T80 (mkF m 11 #[.val (.ref a), .val (.ref b80), .val (.int (5 : Int32)), .val (.int (0 : Int32)), .unset] [(.int (5 : Int32)), (.int (0 : Int32))])
  refine go (fun _ => XS.icmpNo X80.here hx rfl (hb hby d_prog_10_method_4_11) rfl (XT.ii_ge_f ((by decide) : (0 : Int32) < (5 : Int32)))) ?_
  show Ends p e below s _ _ _ T80 (mkF m 14 #[.val (.ref a), .val (.ref b80), .val (.int (5 : Int32)), .val (.int (0 : Int32)), .unset] [])
  refine go (fun _ => XS.aloadN X80.here hx rfl (hb hby d_prog_10_method_4_14) rfl rfl) ?_
  show Ends p e below s _ _ _ T80 (mkF m 15 #[.val (.ref a), .val (.ref b80), .val (.int (5 : Int32)), .val (.int (0 : Int32)), .unset] [(.ref b80)])
  refine go (fun _ => XS.iloadN X80.here hx rfl (hb hby d_prog_10_method_4_15) rfl) ?_
  show Ends p e below s _ _ _ T80 (mkF m 16 #[.val (.ref a), .val (.ref b80), .val (.int (5 : Int32)), .val (.int (0 : Int32)), .unset] [(.int (0 : Int32)), (.ref b80)])
  obtain ⟨c87, A87, -, S87, M87, H87, -⟩ := id V80
  have B87 := inb_of S87 (j := (0 : Int32)) (by decide)
  refine go (fun _ => X80.aaload hx (j := (0 : Int32)) (v := (.ref a_DeleteAction_NO_ACTION)) (by rw [e80]; exact A87.1) (State.isArrayOf_alike hZ.alike A87.2.1) rfl A87.2.2 B87 (H87.at B87 rfl) (g := (mkF m 16 #[.val (.ref a), .val (.ref b80), .val (.int (5 : Int32)), .val (.int (0 : Int32)), .unset] [(.int (0 : Int32)), (.ref b80)])) rfl rfl (hb hby d_prog_10_method_4_16) _) ?_
  show Ends p e below s _ _ _ T80 (mkF m 17 #[.val (.ref a), .val (.ref b80), .val (.int (5 : Int32)), .val (.int (0 : Int32)), .unset] [(.ref a_DeleteAction_NO_ACTION)])
  refine go (fun _ => XS.astore X80.here hx rfl (hb hby d_prog_10_method_4_17) rfl rfl (l' := #[.val (.ref a), .val (.ref b80), .val (.int (5 : Int32)), .val (.int (0 : Int32)), .val (.ref a_DeleteAction_NO_ACTION)]) rfl) ?_
  show Ends p e below s _ _ _ T80 (mkF m 19 #[.val (.ref a), .val (.ref b80), .val (.int (5 : Int32)), .val (.int (0 : Int32)), .val (.ref a_DeleteAction_NO_ACTION)] [])
  refine go (fun _ => XS.aload X80.here hx rfl (hb hby d_prog_10_method_4_19) rfl rfl) ?_
  show Ends p e below s _ _ _ T80 (mkF m 21 #[.val (.ref a), .val (.ref b80), .val (.int (5 : Int32)), .val (.int (0 : Int32)), .val (.ref a_DeleteAction_NO_ACTION)] [(.ref a_DeleteAction_NO_ACTION)])
  obtain ⟨T88, X88, e88, s88⟩ := getF X80 hx hZ hown (host := "") (Or.inl (hw _ (List.mem_of_getElem? (i := 59) rfl))) Via.refl e80 (Fld.ext O85 ft_35) (g := (mkF m 21 #[.val (.ref a), .val (.ref b80), .val (.int (5 : Int32)), .val (.int (0 : Int32)), .val (.ref a_DeleteAction_NO_ACTION)] [(.ref a_DeleteAction_NO_ACTION)])) rfl rfl (hb hby d_prog_10_method_4_21)
  refine go s88 ?_
  show Ends p e below s _ _ _ T88 (mkF m 24 #[.val (.ref a), .val (.ref b80), .val (.int (5 : Int32)), .val (.int (0 : Int32)), .val (.ref a_DeleteAction_NO_ACTION)] [(.ref a_DeleteAction_NO_ACTION_catalogCode)])
  refine go (fun _ => XS.aloadN X88.here hx rfl (hb hby d_prog_10_method_4_24) rfl rfl) ?_
  show Ends p e below s _ _ _ T88 (mkF m 25 #[.val (.ref a), .val (.ref b80), .val (.int (5 : Int32)), .val (.int (0 : Int32)), .val (.ref a_DeleteAction_NO_ACTION)] [(.ref a), (.ref a_DeleteAction_NO_ACTION_catalogCode)])
  have F89 := (Exa.keep Ea K80)
  have F90 := (Fld.keep Fv K80 nin0)
  have F91 := (Fld.keep Fc K80 nin0)
  have F92 := (Arv.keep Vb K80 nin0)
  refine cVirt X88 hx hZ hown (by rw [hml]; rfl) e88 (hw _ (List.mem_of_getElem? (i := 61) rfl)) (hw _ (List.mem_of_getElem? (i := 62) rfl)) (hw _ (List.mem_of_getElem? (i := 64) rfl)) (hw _ (List.mem_of_getElem? (i := 63) rfl)) (hw _ (List.mem_of_getElem? (i := 10) rfl)) (hw _ (List.mem_of_getElem? (i := 65) rfl)) (notFace_of_selects (args := #[]) (mvT hZ (hw _ (List.mem_of_getElem? (i := 64) rfl)))) a_DeleteAction_NO_ACTION_catalogCode (Exa.ext O85 ex_36) [(.ref a)] [] rfl (rm_streq_1_1 hw a_DeleteAction_NO_ACTION_catalogCode a a_DeleteAction_NO_ACTION_catalogCode_value b k_a_DeleteAction_NO_ACTION_catalogCode_value kb (97 : Int32) (114 : Int32) _ O85 (fun q => absurd (Nat.lt_of_lt_of_le (ex_36).lt f0) (by rw [q]; exact Nat.lt_irrefl _)) F89 cz SCS hcz (Fld.ext O85 ft_40) (Fld.ext O85 ft_38) F90 F91 (Arv.ext av_106 O85) F92) (hb hby d_prog_10_method_4_25) rfl (lenOf pd_10 rfl) (by decide) (by decide) (Nat.le_of_ble_eq_true rfl) (by decide) (by decide) ?_
  rintro v93 T93 h93 L93 X93 e93 ⟨rfl, N93, rfl⟩
  have N93a := Fr.app N80a N93
  show Ends p e below s _ _ _ T93 (mkF m 28 #[.val (.ref a), .val (.ref b80), .val (.int (5 : Int32)), .val (.int (0 : Int32)), .val (.ref a_DeleteAction_NO_ACTION)] [(.int (if (97 : Int32) = (114 : Int32) then (1 : Int32) else (0 : Int32)))])
  show Ends p e below s _ _ _ T93 (mkF m 28 #[.val (.ref a), .val (.ref b80), .val (.int (5 : Int32)), .val (.int (0 : Int32)), .val (.ref a_DeleteAction_NO_ACTION)] [(.int (0 : Int32))])
  refine go (fun _ => XS.ifYes X93.here hx rfl (pc0 := 28) (pc' := 34) rfl (hb hby d_prog_10_method_4_28) rfl (XT.i0_eq_t ((by decide) : (0 : Int32) = (0 : Int32))) (by decide) (by decide)) ?_
  show Ends p e below s _ _ _ T93 (mkF m 34 #[.val (.ref a), .val (.ref b80), .val (.int (5 : Int32)), .val (.int (0 : Int32)), .val (.ref a_DeleteAction_NO_ACTION)] [])
  refine go (fun _ => XT.iincV X93.here hx rfl (1 : Int32) (hb hby d_prog_10_method_4_34) (by decide) rfl (l' := #[.val (.ref a), .val (.ref b80), .val (.int (5 : Int32)), .val (.int (1 : Int32)), .val (.ref a_DeleteAction_NO_ACTION)]) rfl) ?_
  show Ends p e below s _ _ _ T93 (mkF m 37 #[.val (.ref a), .val (.ref b80), .val (.int (5 : Int32)), .val (.int (1 : Int32)), .val (.ref a_DeleteAction_NO_ACTION)] [])
  refine go (fun _ => XS.goto X93.here hx rfl (pc0 := 37) (pc' := 9) rfl (hb hby d_prog_10_method_4_37) (by decide) (by decide)) ?_
  show Ends p e below s _ _ _ T93 (mkF m 9 #[.val (.ref a), .val (.ref b80), .val (.int (5 : Int32)), .val (.int (1 : Int32)), .val (.ref a_DeleteAction_NO_ACTION)] [])
  refine go (fun _ => XS.iloadN X93.here hx rfl (hb hby d_prog_10_method_4_9) rfl) ?_
  show Ends p e below s _ _ _ T93 (mkF m 10 #[.val (.ref a), .val (.ref b80), .val (.int (5 : Int32)), .val (.int (1 : Int32)), .val (.ref a_DeleteAction_NO_ACTION)] [(.int (1 : Int32))])
  refine go (fun _ => XS.iloadN X93.here hx rfl (hb hby d_prog_10_method_4_10) rfl) ?_
  show Ends p e below s _ _ _ T93 (mkF m 11 #[.val (.ref a), .val (.ref b80), .val (.int (5 : Int32)), .val (.int (1 : Int32)), .val (.ref a_DeleteAction_NO_ACTION)] [(.int (5 : Int32)), (.int (1 : Int32))])
  refine go (fun _ => XS.icmpNo X93.here hx rfl (hb hby d_prog_10_method_4_11) rfl (XT.ii_ge_f ((by decide) : (1 : Int32) < (5 : Int32)))) ?_
  show Ends p e below s _ _ _ T93 (mkF m 14 #[.val (.ref a), .val (.ref b80), .val (.int (5 : Int32)), .val (.int (1 : Int32)), .val (.ref a_DeleteAction_NO_ACTION)] [])
  refine go (fun _ => XS.aloadN X93.here hx rfl (hb hby d_prog_10_method_4_14) rfl rfl) ?_
  show Ends p e below s _ _ _ T93 (mkF m 15 #[.val (.ref a), .val (.ref b80), .val (.int (5 : Int32)), .val (.int (1 : Int32)), .val (.ref a_DeleteAction_NO_ACTION)] [(.ref b80)])
  refine go (fun _ => XS.iloadN X93.here hx rfl (hb hby d_prog_10_method_4_15) rfl) ?_
  show Ends p e below s _ _ _ T93 (mkF m 16 #[.val (.ref a), .val (.ref b80), .val (.int (5 : Int32)), .val (.int (1 : Int32)), .val (.ref a_DeleteAction_NO_ACTION)] [(.int (1 : Int32)), (.ref b80)])
  obtain ⟨c94, A94, -, S94, M94, H94, -⟩ := id V80
  have B94 := inb_of S94 (j := (1 : Int32)) (by decide)
  refine go (fun _ => X93.aaload hx (j := (1 : Int32)) (v := (.ref a_DeleteAction_RESTRICT)) (by rw [e93]; exact A94.1) (State.isArrayOf_alike hZ.alike A94.2.1) rfl A94.2.2 B94 (H94.at B94 rfl) (g := (mkF m 16 #[.val (.ref a), .val (.ref b80), .val (.int (5 : Int32)), .val (.int (1 : Int32)), .val (.ref a_DeleteAction_NO_ACTION)] [(.int (1 : Int32)), (.ref b80)])) rfl rfl (hb hby d_prog_10_method_4_16) _) ?_
  show Ends p e below s _ _ _ T93 (mkF m 17 #[.val (.ref a), .val (.ref b80), .val (.int (5 : Int32)), .val (.int (1 : Int32)), .val (.ref a_DeleteAction_NO_ACTION)] [(.ref a_DeleteAction_RESTRICT)])
  refine go (fun _ => XS.astore X93.here hx rfl (hb hby d_prog_10_method_4_17) rfl rfl (l' := #[.val (.ref a), .val (.ref b80), .val (.int (5 : Int32)), .val (.int (1 : Int32)), .val (.ref a_DeleteAction_RESTRICT)]) rfl) ?_
  show Ends p e below s _ _ _ T93 (mkF m 19 #[.val (.ref a), .val (.ref b80), .val (.int (5 : Int32)), .val (.int (1 : Int32)), .val (.ref a_DeleteAction_RESTRICT)] [])
  refine go (fun _ => XS.aload X93.here hx rfl (hb hby d_prog_10_method_4_19) rfl rfl) ?_
  show Ends p e below s _ _ _ T93 (mkF m 21 #[.val (.ref a), .val (.ref b80), .val (.int (5 : Int32)), .val (.int (1 : Int32)), .val (.ref a_DeleteAction_RESTRICT)] [(.ref a_DeleteAction_RESTRICT)])
  obtain ⟨T95, X95, e95, s95⟩ := getF X93 hx hZ hown (host := "") (Or.inl (hw _ (List.mem_of_getElem? (i := 59) rfl))) Via.refl e93 (Fld.ext O85 ft_51) (g := (mkF m 21 #[.val (.ref a), .val (.ref b80), .val (.int (5 : Int32)), .val (.int (1 : Int32)), .val (.ref a_DeleteAction_RESTRICT)] [(.ref a_DeleteAction_RESTRICT)])) rfl rfl (hb hby d_prog_10_method_4_21)
  refine go s95 ?_
  show Ends p e below s _ _ _ T95 (mkF m 24 #[.val (.ref a), .val (.ref b80), .val (.int (5 : Int32)), .val (.int (1 : Int32)), .val (.ref a_DeleteAction_RESTRICT)] [(.ref a_DeleteAction_RESTRICT_catalogCode)])
  refine go (fun _ => XS.aloadN X95.here hx rfl (hb hby d_prog_10_method_4_24) rfl rfl) ?_
  show Ends p e below s _ _ _ T95 (mkF m 25 #[.val (.ref a), .val (.ref b80), .val (.int (5 : Int32)), .val (.int (1 : Int32)), .val (.ref a_DeleteAction_RESTRICT)] [(.ref a), (.ref a_DeleteAction_RESTRICT_catalogCode)])
  refine cVirt X95 hx hZ hown (by rw [hml]; rfl) e95 (hw _ (List.mem_of_getElem? (i := 61) rfl)) (hw _ (List.mem_of_getElem? (i := 62) rfl)) (hw _ (List.mem_of_getElem? (i := 64) rfl)) (hw _ (List.mem_of_getElem? (i := 63) rfl)) (hw _ (List.mem_of_getElem? (i := 10) rfl)) (hw _ (List.mem_of_getElem? (i := 65) rfl)) (notFace_of_selects (args := #[]) (mvT hZ (hw _ (List.mem_of_getElem? (i := 64) rfl)))) a_DeleteAction_RESTRICT_catalogCode (Exa.ext O85 ex_52) [(.ref a)] [] rfl (rm_streq_1_1 hw a_DeleteAction_RESTRICT_catalogCode a a_DeleteAction_RESTRICT_catalogCode_value b k_a_DeleteAction_RESTRICT_catalogCode_value kb (114 : Int32) (114 : Int32) _ O85 (fun q => absurd (Nat.lt_of_lt_of_le (ex_52).lt f0) (by rw [q]; exact Nat.lt_irrefl _)) F89 cz SCS hcz (Fld.ext O85 ft_56) (Fld.ext O85 ft_54) F90 F91 (Arv.ext av_107 O85) F92) (hb hby d_prog_10_method_4_25) rfl (lenOf pd_10 rfl) (by decide) (by decide) (Nat.le_of_ble_eq_true rfl) (by decide) (by decide) ?_
  rintro v96 T96 h96 L96 X96 e96 ⟨rfl, N96, rfl⟩
  have N96a := Fr.app N93a N96
  show Ends p e below s _ _ _ T96 (mkF m 28 #[.val (.ref a), .val (.ref b80), .val (.int (5 : Int32)), .val (.int (1 : Int32)), .val (.ref a_DeleteAction_RESTRICT)] [(.int (if (114 : Int32) = (114 : Int32) then (1 : Int32) else (0 : Int32)))])
  show Ends p e below s _ _ _ T96 (mkF m 28 #[.val (.ref a), .val (.ref b80), .val (.int (5 : Int32)), .val (.int (1 : Int32)), .val (.ref a_DeleteAction_RESTRICT)] [(.int (1 : Int32))])
  refine go (fun _ => XS.ifNo X96.here hx rfl (hb hby d_prog_10_method_4_28) rfl (XT.i0_eq_f ((by decide) : ¬ ((1 : Int32) = (0 : Int32))))) ?_
  show Ends p e below s _ _ _ T96 (mkF m 31 #[.val (.ref a), .val (.ref b80), .val (.int (5 : Int32)), .val (.int (1 : Int32)), .val (.ref a_DeleteAction_RESTRICT)] [])
  refine go (fun _ => XS.aload X96.here hx rfl (hb hby d_prog_10_method_4_31) rfl rfl) ?_
  show Ends p e below s _ _ _ T96 (mkF m 33 #[.val (.ref a), .val (.ref b80), .val (.int (5 : Int32)), .val (.int (1 : Int32)), .val (.ref a_DeleteAction_RESTRICT)] [(.ref a_DeleteAction_RESTRICT)])
  have K97 : Keep h0 h80 [] := (Keep.trans K84 K80 all0)
  exact endA X96 hx hlk hret rfl rfl (hb hby d_prog_10_method_4_33) e96 ⟨rfl, N96a, K97⟩ (by decide) (by decide)
set_option maxRecDepth 65536 in
set_option maxHeartbeats 40000000 in
theorem rm_from_99 {l : Launch} {Z : State} {a0 : Array Value} (hw : ∀ d ∈ tables_1, d.before a0 Z = true) (a b : Addr) (kb : ClassId) (a_DeleteAction_NO_ACTION : Addr) (a_DeletionRule_RESTRICT : Addr) (a_DeleteAction__VALUES : Addr) (a_DeleteAction_RESTRICT : Addr) (a_DeleteAction_CASCADE : Addr) (a_DeleteAction_SET_NULL : Addr) (a_DeleteAction_SET_DEFAULT : Addr) (a_DeleteAction_NO_ACTION_catalogCode : Addr) (a_DeleteAction_NO_ACTION_catalogCode_value : Addr) (a_DeletionRule_DETACH : Addr) (a_DeleteAction_RESTRICT_catalogCode : Addr) (a_DeleteAction_RESTRICT_catalogCode_value : Addr) (a_DeleteAction_CASCADE_catalogCode : Addr) (a_DeleteAction_CASCADE_catalogCode_value : Addr) (a_DeleteAction_SET_NULL_catalogCode : Addr) (a_DeleteAction_SET_NULL_catalogCode_value : Addr) (a_DeleteAction_SET_DEFAULT_catalogCode : Addr) (a_DeleteAction_SET_DEFAULT_catalogCode_value : Addr) (a_DeletionRule_CASCADE : Addr) (k_a_DeleteAction__VALUES : ClassId) (k_a_DeleteAction_NO_ACTION_catalogCode_value : ClassId) (k_a_DeleteAction_RESTRICT_catalogCode_value : ClassId) (k_a_DeleteAction_CASCADE_catalogCode_value : ClassId) (k_a_DeleteAction_SET_NULL_catalogCode_value : ClassId) (k_a_DeleteAction_SET_DEFAULT_catalogCode_value : ClassId) (h0 : Heap) (O0 : Ext Z.heap h0) (cz : Int32) (SCS : Sta Z Z.heap "java/lang/String" "COMPACT_STRINGS" "Z" (.int cz)) (hcz : ¬ cz = (0 : Int32)) (ft_2 : Sta Z Z.heap "com/example/scopa/scopa/schema/DeleteAction" "NO_ACTION" "Lcom/example/scopa/scopa/schema/DeleteAction;" (.ref a_DeleteAction_NO_ACTION)) (ft_5 : Sta Z Z.heap "com/example/scopa/scopa/schema/DeletionRule" "RESTRICT" "Lcom/example/scopa/scopa/schema/DeletionRule;" (.ref a_DeletionRule_RESTRICT)) (ft_8 : Sta Z Z.heap "com/example/scopa/scopa/schema/DeleteAction" "$VALUES" "[Lcom/example/scopa/scopa/schema/DeleteAction;" (.ref a_DeleteAction__VALUES)) (ft_15 : Sta Z Z.heap "com/example/scopa/scopa/schema/DeleteAction" "RESTRICT" "Lcom/example/scopa/scopa/schema/DeleteAction;" (.ref a_DeleteAction_RESTRICT)) (ft_20 : Sta Z Z.heap "com/example/scopa/scopa/schema/DeleteAction" "CASCADE" "Lcom/example/scopa/scopa/schema/DeleteAction;" (.ref a_DeleteAction_CASCADE)) (ft_25 : Sta Z Z.heap "com/example/scopa/scopa/schema/DeleteAction" "SET_NULL" "Lcom/example/scopa/scopa/schema/DeleteAction;" (.ref a_DeleteAction_SET_NULL)) (ft_30 : Sta Z Z.heap "com/example/scopa/scopa/schema/DeleteAction" "SET_DEFAULT" "Lcom/example/scopa/scopa/schema/DeleteAction;" (.ref a_DeleteAction_SET_DEFAULT)) (ft_48 : Sta Z Z.heap "com/example/scopa/scopa/schema/DeletionRule" "DETACH" "Lcom/example/scopa/scopa/schema/DeletionRule;" (.ref a_DeletionRule_DETACH)) (ft_101 : Sta Z Z.heap "com/example/scopa/scopa/schema/DeletionRule" "CASCADE" "Lcom/example/scopa/scopa/schema/DeletionRule;" (.ref a_DeletionRule_CASCADE)) (ex_3 : Exa Z Z.heap a_DeleteAction_NO_ACTION "com/example/scopa/scopa/schema/DeleteAction") (ex_6 : Exa Z Z.heap a_DeletionRule_RESTRICT "com/example/scopa/scopa/schema/DeletionRule") (ex_10 : Exa Z Z.heap a_DeleteAction__VALUES "[Lcom/example/scopa/scopa/schema/DeleteAction;") (ex_16 : Exa Z Z.heap a_DeleteAction_RESTRICT "com/example/scopa/scopa/schema/DeleteAction") (ex_21 : Exa Z Z.heap a_DeleteAction_CASCADE "com/example/scopa/scopa/schema/DeleteAction") (ex_26 : Exa Z Z.heap a_DeleteAction_SET_NULL "com/example/scopa/scopa/schema/DeleteAction") (ex_31 : Exa Z Z.heap a_DeleteAction_SET_DEFAULT "com/example/scopa/scopa/schema/DeleteAction") (ex_36 : Exa Z Z.heap a_DeleteAction_NO_ACTION_catalogCode "java/lang/String") (ex_49 : Exa Z Z.heap a_DeletionRule_DETACH "com/example/scopa/scopa/schema/DeletionRule") (ex_52 : Exa Z Z.heap a_DeleteAction_RESTRICT_catalogCode "java/lang/String") (ex_63 : Exa Z Z.heap a_DeleteAction_CASCADE_catalogCode "java/lang/String") (ex_74 : Exa Z Z.heap a_DeleteAction_SET_NULL_catalogCode "java/lang/String") (ex_89 : Exa Z Z.heap a_DeleteAction_SET_DEFAULT_catalogCode "java/lang/String") (ex_102 : Exa Z Z.heap a_DeletionRule_CASCADE "com/example/scopa/scopa/schema/DeletionRule") (ft_35 : Fld Z Z.heap a_DeleteAction_NO_ACTION "com/example/scopa/scopa/schema/DeleteAction" "catalogCode" "Ljava/lang/String;" (.ref a_DeleteAction_NO_ACTION_catalogCode)) (ft_38 : Fld Z Z.heap a_DeleteAction_NO_ACTION_catalogCode "java/lang/String" "coder" "B" (.int (0 : Int32))) (ft_40 : Fld Z Z.heap a_DeleteAction_NO_ACTION_catalogCode "java/lang/String" "value" "[B" (.ref a_DeleteAction_NO_ACTION_catalogCode_value)) (ft_46 : Fld Z Z.heap a_DeleteAction_NO_ACTION "com/example/scopa/scopa/schema/DeleteAction" "rule" "Lcom/example/scopa/scopa/schema/DeletionRule;" (.ref a_DeletionRule_RESTRICT)) (ft_51 : Fld Z Z.heap a_DeleteAction_RESTRICT "com/example/scopa/scopa/schema/DeleteAction" "catalogCode" "Ljava/lang/String;" (.ref a_DeleteAction_RESTRICT_catalogCode)) (ft_54 : Fld Z Z.heap a_DeleteAction_RESTRICT_catalogCode "java/lang/String" "coder" "B" (.int (0 : Int32))) (ft_56 : Fld Z Z.heap a_DeleteAction_RESTRICT_catalogCode "java/lang/String" "value" "[B" (.ref a_DeleteAction_RESTRICT_catalogCode_value)) (ft_62 : Fld Z Z.heap a_DeleteAction_CASCADE "com/example/scopa/scopa/schema/DeleteAction" "catalogCode" "Ljava/lang/String;" (.ref a_DeleteAction_CASCADE_catalogCode)) (ft_65 : Fld Z Z.heap a_DeleteAction_CASCADE_catalogCode "java/lang/String" "coder" "B" (.int (0 : Int32))) (ft_67 : Fld Z Z.heap a_DeleteAction_CASCADE_catalogCode "java/lang/String" "value" "[B" (.ref a_DeleteAction_CASCADE_catalogCode_value)) (ft_73 : Fld Z Z.heap a_DeleteAction_SET_NULL "com/example/scopa/scopa/schema/DeleteAction" "catalogCode" "Ljava/lang/String;" (.ref a_DeleteAction_SET_NULL_catalogCode)) (ft_76 : Fld Z Z.heap a_DeleteAction_SET_NULL_catalogCode "java/lang/String" "coder" "B" (.int (0 : Int32))) (ft_78 : Fld Z Z.heap a_DeleteAction_SET_NULL_catalogCode "java/lang/String" "value" "[B" (.ref a_DeleteAction_SET_NULL_catalogCode_value)) (ft_84 : Fld Z Z.heap a_DeleteAction_SET_NULL "com/example/scopa/scopa/schema/DeleteAction" "rule" "Lcom/example/scopa/scopa/schema/DeletionRule;" (.ref a_DeletionRule_DETACH)) (ft_86 : Fld Z Z.heap a_DeleteAction_RESTRICT "com/example/scopa/scopa/schema/DeleteAction" "rule" "Lcom/example/scopa/scopa/schema/DeletionRule;" (.ref a_DeletionRule_RESTRICT)) (ft_88 : Fld Z Z.heap a_DeleteAction_SET_DEFAULT "com/example/scopa/scopa/schema/DeleteAction" "catalogCode" "Ljava/lang/String;" (.ref a_DeleteAction_SET_DEFAULT_catalogCode)) (ft_91 : Fld Z Z.heap a_DeleteAction_SET_DEFAULT_catalogCode "java/lang/String" "coder" "B" (.int (0 : Int32))) (ft_93 : Fld Z Z.heap a_DeleteAction_SET_DEFAULT_catalogCode "java/lang/String" "value" "[B" (.ref a_DeleteAction_SET_DEFAULT_catalogCode_value)) (ft_99 : Fld Z Z.heap a_DeleteAction_SET_DEFAULT "com/example/scopa/scopa/schema/DeleteAction" "rule" "Lcom/example/scopa/scopa/schema/DeletionRule;" (.ref a_DeletionRule_DETACH)) (ft_104 : Fld Z Z.heap a_DeleteAction_CASCADE "com/example/scopa/scopa/schema/DeleteAction" "rule" "Lcom/example/scopa/scopa/schema/DeletionRule;" (.ref a_DeletionRule_CASCADE)) (av_105 : Arv Z Z.heap a_DeleteAction__VALUES k_a_DeleteAction__VALUES (.object "com/example/scopa/scopa/schema/DeleteAction") (5 : Int32) [(.ref a_DeleteAction_NO_ACTION), (.ref a_DeleteAction_RESTRICT), (.ref a_DeleteAction_CASCADE), (.ref a_DeleteAction_SET_NULL), (.ref a_DeleteAction_SET_DEFAULT)] .null) (av_106 : Arv Z Z.heap a_DeleteAction_NO_ACTION_catalogCode_value k_a_DeleteAction_NO_ACTION_catalogCode_value .byte (1 : Int32) [(.int (97 : Int32))] (.int 0)) (av_107 : Arv Z Z.heap a_DeleteAction_RESTRICT_catalogCode_value k_a_DeleteAction_RESTRICT_catalogCode_value .byte (1 : Int32) [(.int (114 : Int32))] (.int 0)) (av_108 : Arv Z Z.heap a_DeleteAction_CASCADE_catalogCode_value k_a_DeleteAction_CASCADE_catalogCode_value .byte (1 : Int32) [(.int (99 : Int32))] (.int 0)) (av_109 : Arv Z Z.heap a_DeleteAction_SET_NULL_catalogCode_value k_a_DeleteAction_SET_NULL_catalogCode_value .byte (1 : Int32) [(.int (110 : Int32))] (.int 0)) (av_110 : Arv Z Z.heap a_DeleteAction_SET_DEFAULT_catalogCode_value k_a_DeleteAction_SET_DEFAULT_catalogCode_value .byte (1 : Int32) [(.int (100 : Int32))] (.int 0)) (f0 : Z.heap.size ≤ a) (Ea : Exa Z h0 a "java/lang/String") (Fv : Fld Z h0 a "java/lang/String" "value" "[B" (.ref b)) (Fc : Fld Z h0 a "java/lang/String" "coder" "B" (.int 0)) (Vb : Arv Z h0 b kb .byte (1 : Int32) [(.int (99 : Int32))] (.int 0)) :
    Con l (⟨"com/example/scopa/scopa/schema/DeleteAction", "fromCatalogCode", "(Ljava/lang/String;)Lcom/example/scopa/scopa/schema/DeleteAction;"⟩ : MethodName) prog_10_method_4_code 5 (some (.object "com/example/scopa/scopa/schema/DeleteAction")) ({ frames := 2, cells := 1, slots := 5, locals := 28 } : Room) Z #[(.ref a)] h0 (fun v h L => v = some (.ref a_DeleteAction_CASCADE) ∧ Fr Z.heap.size L ∧ Keep h0 h []) := by
  refine Con.of (plainFor_of_name pn_8) (Ls := #[.val (.ref a), .unset, .unset, .unset, .unset]) (fun m => by first | rfl | (simp [entryFrame, mkF, argsToLocals, Value.category]; done)) ?_
  intro p e s m below meth c T0 X0 hx hZ hby hml hown hnm hret hlk e0
  refine cStat X0 hx hZ hown (by rw [hml]; rfl) e0 (hw _ (List.mem_of_getElem? (i := 40) rfl)) (hw _ (List.mem_of_getElem? (i := 41) rfl)) (hw _ (List.mem_of_getElem? (i := 2) rfl)) (hw _ (List.mem_of_getElem? (i := 42) rfl)) [] [] rfl (rm_values hw a_DeleteAction_NO_ACTION a_DeletionRule_RESTRICT a_DeleteAction__VALUES a_DeleteAction_RESTRICT a_DeleteAction_CASCADE a_DeleteAction_SET_NULL a_DeleteAction_SET_DEFAULT a_DeleteAction_NO_ACTION_catalogCode a_DeleteAction_NO_ACTION_catalogCode_value a_DeletionRule_DETACH a_DeleteAction_RESTRICT_catalogCode a_DeleteAction_RESTRICT_catalogCode_value a_DeleteAction_CASCADE_catalogCode a_DeleteAction_CASCADE_catalogCode_value a_DeleteAction_SET_NULL_catalogCode a_DeleteAction_SET_NULL_catalogCode_value a_DeleteAction_SET_DEFAULT_catalogCode a_DeleteAction_SET_DEFAULT_catalogCode_value a_DeletionRule_CASCADE k_a_DeleteAction__VALUES k_a_DeleteAction_NO_ACTION_catalogCode_value k_a_DeleteAction_RESTRICT_catalogCode_value k_a_DeleteAction_CASCADE_catalogCode_value k_a_DeleteAction_SET_NULL_catalogCode_value k_a_DeleteAction_SET_DEFAULT_catalogCode_value _ O0 ft_2 ft_5 ft_8 ft_15 ft_20 ft_25 ft_30 ft_48 ft_101 ex_3 ex_6 ex_10 ex_16 ex_21 ex_26 ex_31 ex_36 ex_49 ex_52 ex_63 ex_74 ex_89 ex_102 ft_35 ft_38 ft_40 ft_46 ft_51 ft_54 ft_56 ft_62 ft_65 ft_67 ft_73 ft_76 ft_78 ft_84 ft_86 ft_88 ft_91 ft_93 ft_99 ft_104 av_105 av_106 av_107 av_108 av_109 av_110) (hb hby d_prog_10_method_4_0) rfl (lenOf pd_9 rfl) (by decide) (by decide) (Nat.le_of_ble_eq_true rfl) (by decide) (by decide) ?_
  rintro v98 T98 h98 L98 X98 e98 ⟨b98, rfl, N98, K98, g98, V98⟩
  have N98a := Fr.app (Fr.nil _) N98
  have n99 : a ≠ b98 := Nat.ne_of_lt (Nat.lt_of_lt_of_le (Ea.lt) g98)
  have n100 : b ≠ b98 := Nat.ne_of_lt (Nat.lt_of_lt_of_le (Vb.lt) g98)
  have f101 : Z.heap.size ≤ b98 := Nat.le_trans (O0).1 g98
  have K102 : Keep h0 h0 [] := (Keep.refl _ _)
  have b101 : h0.size ≤ b98 := Nat.le_trans (K102).1 g98
  have O103 : Ext Z.heap h98 := xk O0 K98 all0
  show Ends p e below s _ _ _ T98 (mkF m 3 #[.val (.ref a), .unset, .unset, .unset, .unset] [(.ref b98)])
  refine go (fun _ => XS.astoreN X98.here hx rfl (hb hby d_prog_10_method_4_3) rfl rfl (l' := #[.val (.ref a), .val (.ref b98), .unset, .unset, .unset]) rfl) ?_
  show Ends p e below s _ _ _ T98 (mkF m 4 #[.val (.ref a), .val (.ref b98), .unset, .unset, .unset] [])
  refine go (fun _ => XS.aloadN X98.here hx rfl (hb hby d_prog_10_method_4_4) rfl rfl) ?_
  show Ends p e below s _ _ _ T98 (mkF m 5 #[.val (.ref a), .val (.ref b98), .unset, .unset, .unset] [(.ref b98)])
  obtain ⟨c104, A104, -, S104, M104, -⟩ := id V98
  refine go (fun _ => X98.arraylength hx (cell := c104) (by rw [e98]; exact A104.1) (State.isArrayOf_alike hZ.alike A104.2.1) (g := (mkF m 5 #[.val (.ref a), .val (.ref b98), .unset, .unset, .unset] [(.ref b98)])) rfl rfl (hb hby d_prog_10_method_4_5) _) ?_
  rw [len_of S104 M104]
  show Ends p e below s _ _ _ T98 (mkF m 6 #[.val (.ref a), .val (.ref b98), .unset, .unset, .unset] [(.int (5 : Int32))])
  refine go (fun _ => XS.istoreN X98.here hx rfl (hb hby d_prog_10_method_4_6) rfl (l' := #[.val (.ref a), .val (.ref b98), .val (.int (5 : Int32)), .unset, .unset]) rfl) ?_
  show Ends p e below s _ _ _ T98 (mkF m 7 #[.val (.ref a), .val (.ref b98), .val (.int (5 : Int32)), .unset, .unset] [])
  refine go (fun _ => XT.iconstV X98.here hx rfl (0 : Int32) (hb hby d_prog_10_method_4_7) (by decide)) ?_
  show Ends p e below s _ _ _ T98 (mkF m 8 #[.val (.ref a), .val (.ref b98), .val (.int (5 : Int32)), .unset, .unset] [(.int (0 : Int32))])
  refine go (fun _ => XS.istoreN X98.here hx rfl (hb hby d_prog_10_method_4_8) rfl (l' := #[.val (.ref a), .val (.ref b98), .val (.int (5 : Int32)), .val (.int (0 : Int32)), .unset]) rfl) ?_
  show Ends p e below s _ _ _ T98 (mkF m 9 #[.val (.ref a), .val (.ref b98), .val (.int (5 : Int32)), .val (.int (0 : Int32)), .unset] [])
  refine go (fun _ => XS.iloadN X98.here hx rfl (hb hby d_prog_10_method_4_9) rfl) ?_
  show Ends p e below s _ _ _ T98 (mkF m 10 #[.val (.ref a), .val (.ref b98), .val (.int (5 : Int32)), .val (.int (0 : Int32)), .unset] [(.int (0 : Int32))])
  refine go (fun _ => XS.iloadN X98.here hx rfl (hb hby d_prog_10_method_4_10) rfl) ?_
  show Ends p e below s _ _ _ T98 (mkF m 11 #[.val (.ref a), .val (.ref b98), .val (.int (5 : Int32)), .val (.int (0 : Int32)), .unset] [(.int (5 : Int32)), (.int (0 : Int32))])
  refine go (fun _ => XS.icmpNo X98.here hx rfl (hb hby d_prog_10_method_4_11) rfl (XT.ii_ge_f ((by decide) : (0 : Int32) < (5 : Int32)))) ?_
  show Ends p e below s _ _ _ T98 (mkF m 14 #[.val (.ref a), .val (.ref b98), .val (.int (5 : Int32)), .val (.int (0 : Int32)), .unset] [])
  refine go (fun _ => XS.aloadN X98.here hx rfl (hb hby d_prog_10_method_4_14) rfl rfl) ?_
  show Ends p e below s _ _ _ T98 (mkF m 15 #[.val (.ref a), .val (.ref b98), .val (.int (5 : Int32)), .val (.int (0 : Int32)), .unset] [(.ref b98)])
  refine go (fun _ => XS.iloadN X98.here hx rfl (hb hby d_prog_10_method_4_15) rfl) ?_
  show Ends p e below s _ _ _ T98 (mkF m 16 #[.val (.ref a), .val (.ref b98), .val (.int (5 : Int32)), .val (.int (0 : Int32)), .unset] [(.int (0 : Int32)), (.ref b98)])
  obtain ⟨c105, A105, -, S105, M105, H105, -⟩ := id V98
  have B105 := inb_of S105 (j := (0 : Int32)) (by decide)
  refine go (fun _ => X98.aaload hx (j := (0 : Int32)) (v := (.ref a_DeleteAction_NO_ACTION)) (by rw [e98]; exact A105.1) (State.isArrayOf_alike hZ.alike A105.2.1) rfl A105.2.2 B105 (H105.at B105 rfl) (g := (mkF m 16 #[.val (.ref a), .val (.ref b98), .val (.int (5 : Int32)), .val (.int (0 : Int32)), .unset] [(.int (0 : Int32)), (.ref b98)])) rfl rfl (hb hby d_prog_10_method_4_16) _) ?_
  show Ends p e below s _ _ _ T98 (mkF m 17 #[.val (.ref a), .val (.ref b98), .val (.int (5 : Int32)), .val (.int (0 : Int32)), .unset] [(.ref a_DeleteAction_NO_ACTION)])
  refine go (fun _ => XS.astore X98.here hx rfl (hb hby d_prog_10_method_4_17) rfl rfl (l' := #[.val (.ref a), .val (.ref b98), .val (.int (5 : Int32)), .val (.int (0 : Int32)), .val (.ref a_DeleteAction_NO_ACTION)]) rfl) ?_
  show Ends p e below s _ _ _ T98 (mkF m 19 #[.val (.ref a), .val (.ref b98), .val (.int (5 : Int32)), .val (.int (0 : Int32)), .val (.ref a_DeleteAction_NO_ACTION)] [])
  refine go (fun _ => XS.aload X98.here hx rfl (hb hby d_prog_10_method_4_19) rfl rfl) ?_
  show Ends p e below s _ _ _ T98 (mkF m 21 #[.val (.ref a), .val (.ref b98), .val (.int (5 : Int32)), .val (.int (0 : Int32)), .val (.ref a_DeleteAction_NO_ACTION)] [(.ref a_DeleteAction_NO_ACTION)])
  obtain ⟨T106, X106, e106, s106⟩ := getF X98 hx hZ hown (host := "") (Or.inl (hw _ (List.mem_of_getElem? (i := 59) rfl))) Via.refl e98 (Fld.ext O103 ft_35) (g := (mkF m 21 #[.val (.ref a), .val (.ref b98), .val (.int (5 : Int32)), .val (.int (0 : Int32)), .val (.ref a_DeleteAction_NO_ACTION)] [(.ref a_DeleteAction_NO_ACTION)])) rfl rfl (hb hby d_prog_10_method_4_21)
  refine go s106 ?_
  show Ends p e below s _ _ _ T106 (mkF m 24 #[.val (.ref a), .val (.ref b98), .val (.int (5 : Int32)), .val (.int (0 : Int32)), .val (.ref a_DeleteAction_NO_ACTION)] [(.ref a_DeleteAction_NO_ACTION_catalogCode)])
  refine go (fun _ => XS.aloadN X106.here hx rfl (hb hby d_prog_10_method_4_24) rfl rfl) ?_
  show Ends p e below s _ _ _ T106 (mkF m 25 #[.val (.ref a), .val (.ref b98), .val (.int (5 : Int32)), .val (.int (0 : Int32)), .val (.ref a_DeleteAction_NO_ACTION)] [(.ref a), (.ref a_DeleteAction_NO_ACTION_catalogCode)])
  have F107 := (Exa.keep Ea K98)
  have F108 := (Fld.keep Fv K98 nin0)
  have F109 := (Fld.keep Fc K98 nin0)
  have F110 := (Arv.keep Vb K98 nin0)
  refine cVirt X106 hx hZ hown (by rw [hml]; rfl) e106 (hw _ (List.mem_of_getElem? (i := 61) rfl)) (hw _ (List.mem_of_getElem? (i := 62) rfl)) (hw _ (List.mem_of_getElem? (i := 64) rfl)) (hw _ (List.mem_of_getElem? (i := 63) rfl)) (hw _ (List.mem_of_getElem? (i := 10) rfl)) (hw _ (List.mem_of_getElem? (i := 65) rfl)) (notFace_of_selects (args := #[]) (mvT hZ (hw _ (List.mem_of_getElem? (i := 64) rfl)))) a_DeleteAction_NO_ACTION_catalogCode (Exa.ext O103 ex_36) [(.ref a)] [] rfl (rm_streq_1_1 hw a_DeleteAction_NO_ACTION_catalogCode a a_DeleteAction_NO_ACTION_catalogCode_value b k_a_DeleteAction_NO_ACTION_catalogCode_value kb (97 : Int32) (99 : Int32) _ O103 (fun q => absurd (Nat.lt_of_lt_of_le (ex_36).lt f0) (by rw [q]; exact Nat.lt_irrefl _)) F107 cz SCS hcz (Fld.ext O103 ft_40) (Fld.ext O103 ft_38) F108 F109 (Arv.ext av_106 O103) F110) (hb hby d_prog_10_method_4_25) rfl (lenOf pd_10 rfl) (by decide) (by decide) (Nat.le_of_ble_eq_true rfl) (by decide) (by decide) ?_
  rintro v111 T111 h111 L111 X111 e111 ⟨rfl, N111, rfl⟩
  have N111a := Fr.app N98a N111
  show Ends p e below s _ _ _ T111 (mkF m 28 #[.val (.ref a), .val (.ref b98), .val (.int (5 : Int32)), .val (.int (0 : Int32)), .val (.ref a_DeleteAction_NO_ACTION)] [(.int (if (97 : Int32) = (99 : Int32) then (1 : Int32) else (0 : Int32)))])
  show Ends p e below s _ _ _ T111 (mkF m 28 #[.val (.ref a), .val (.ref b98), .val (.int (5 : Int32)), .val (.int (0 : Int32)), .val (.ref a_DeleteAction_NO_ACTION)] [(.int (0 : Int32))])
  refine go (fun _ => XS.ifYes X111.here hx rfl (pc0 := 28) (pc' := 34) rfl (hb hby d_prog_10_method_4_28) rfl (XT.i0_eq_t ((by decide) : (0 : Int32) = (0 : Int32))) (by decide) (by decide)) ?_
  show Ends p e below s _ _ _ T111 (mkF m 34 #[.val (.ref a), .val (.ref b98), .val (.int (5 : Int32)), .val (.int (0 : Int32)), .val (.ref a_DeleteAction_NO_ACTION)] [])
  refine go (fun _ => XT.iincV X111.here hx rfl (1 : Int32) (hb hby d_prog_10_method_4_34) (by decide) rfl (l' := #[.val (.ref a), .val (.ref b98), .val (.int (5 : Int32)), .val (.int (1 : Int32)), .val (.ref a_DeleteAction_NO_ACTION)]) rfl) ?_
  show Ends p e below s _ _ _ T111 (mkF m 37 #[.val (.ref a), .val (.ref b98), .val (.int (5 : Int32)), .val (.int (1 : Int32)), .val (.ref a_DeleteAction_NO_ACTION)] [])
  refine go (fun _ => XS.goto X111.here hx rfl (pc0 := 37) (pc' := 9) rfl (hb hby d_prog_10_method_4_37) (by decide) (by decide)) ?_
  show Ends p e below s _ _ _ T111 (mkF m 9 #[.val (.ref a), .val (.ref b98), .val (.int (5 : Int32)), .val (.int (1 : Int32)), .val (.ref a_DeleteAction_NO_ACTION)] [])
  refine go (fun _ => XS.iloadN X111.here hx rfl (hb hby d_prog_10_method_4_9) rfl) ?_
  show Ends p e below s _ _ _ T111 (mkF m 10 #[.val (.ref a), .val (.ref b98), .val (.int (5 : Int32)), .val (.int (1 : Int32)), .val (.ref a_DeleteAction_NO_ACTION)] [(.int (1 : Int32))])
  refine go (fun _ => XS.iloadN X111.here hx rfl (hb hby d_prog_10_method_4_10) rfl) ?_
  show Ends p e below s _ _ _ T111 (mkF m 11 #[.val (.ref a), .val (.ref b98), .val (.int (5 : Int32)), .val (.int (1 : Int32)), .val (.ref a_DeleteAction_NO_ACTION)] [(.int (5 : Int32)), (.int (1 : Int32))])
  refine go (fun _ => XS.icmpNo X111.here hx rfl (hb hby d_prog_10_method_4_11) rfl (XT.ii_ge_f ((by decide) : (1 : Int32) < (5 : Int32)))) ?_
  show Ends p e below s _ _ _ T111 (mkF m 14 #[.val (.ref a), .val (.ref b98), .val (.int (5 : Int32)), .val (.int (1 : Int32)), .val (.ref a_DeleteAction_NO_ACTION)] [])
  refine go (fun _ => XS.aloadN X111.here hx rfl (hb hby d_prog_10_method_4_14) rfl rfl) ?_
  show Ends p e below s _ _ _ T111 (mkF m 15 #[.val (.ref a), .val (.ref b98), .val (.int (5 : Int32)), .val (.int (1 : Int32)), .val (.ref a_DeleteAction_NO_ACTION)] [(.ref b98)])
  refine go (fun _ => XS.iloadN X111.here hx rfl (hb hby d_prog_10_method_4_15) rfl) ?_
  show Ends p e below s _ _ _ T111 (mkF m 16 #[.val (.ref a), .val (.ref b98), .val (.int (5 : Int32)), .val (.int (1 : Int32)), .val (.ref a_DeleteAction_NO_ACTION)] [(.int (1 : Int32)), (.ref b98)])
  obtain ⟨c112, A112, -, S112, M112, H112, -⟩ := id V98
  have B112 := inb_of S112 (j := (1 : Int32)) (by decide)
  refine go (fun _ => X111.aaload hx (j := (1 : Int32)) (v := (.ref a_DeleteAction_RESTRICT)) (by rw [e111]; exact A112.1) (State.isArrayOf_alike hZ.alike A112.2.1) rfl A112.2.2 B112 (H112.at B112 rfl) (g := (mkF m 16 #[.val (.ref a), .val (.ref b98), .val (.int (5 : Int32)), .val (.int (1 : Int32)), .val (.ref a_DeleteAction_NO_ACTION)] [(.int (1 : Int32)), (.ref b98)])) rfl rfl (hb hby d_prog_10_method_4_16) _) ?_
  show Ends p e below s _ _ _ T111 (mkF m 17 #[.val (.ref a), .val (.ref b98), .val (.int (5 : Int32)), .val (.int (1 : Int32)), .val (.ref a_DeleteAction_NO_ACTION)] [(.ref a_DeleteAction_RESTRICT)])
  refine go (fun _ => XS.astore X111.here hx rfl (hb hby d_prog_10_method_4_17) rfl rfl (l' := #[.val (.ref a), .val (.ref b98), .val (.int (5 : Int32)), .val (.int (1 : Int32)), .val (.ref a_DeleteAction_RESTRICT)]) rfl) ?_
  show Ends p e below s _ _ _ T111 (mkF m 19 #[.val (.ref a), .val (.ref b98), .val (.int (5 : Int32)), .val (.int (1 : Int32)), .val (.ref a_DeleteAction_RESTRICT)] [])
  refine go (fun _ => XS.aload X111.here hx rfl (hb hby d_prog_10_method_4_19) rfl rfl) ?_
  show Ends p e below s _ _ _ T111 (mkF m 21 #[.val (.ref a), .val (.ref b98), .val (.int (5 : Int32)), .val (.int (1 : Int32)), .val (.ref a_DeleteAction_RESTRICT)] [(.ref a_DeleteAction_RESTRICT)])
  obtain ⟨T113, X113, e113, s113⟩ := getF X111 hx hZ hown (host := "") (Or.inl (hw _ (List.mem_of_getElem? (i := 59) rfl))) Via.refl e111 (Fld.ext O103 ft_51) (g := (mkF m 21 #[.val (.ref a), .val (.ref b98), .val (.int (5 : Int32)), .val (.int (1 : Int32)), .val (.ref a_DeleteAction_RESTRICT)] [(.ref a_DeleteAction_RESTRICT)])) rfl rfl (hb hby d_prog_10_method_4_21)
  refine go s113 ?_
  show Ends p e below s _ _ _ T113 (mkF m 24 #[.val (.ref a), .val (.ref b98), .val (.int (5 : Int32)), .val (.int (1 : Int32)), .val (.ref a_DeleteAction_RESTRICT)] [(.ref a_DeleteAction_RESTRICT_catalogCode)])
  refine go (fun _ => XS.aloadN X113.here hx rfl (hb hby d_prog_10_method_4_24) rfl rfl) ?_
  show Ends p e below s _ _ _ T113 (mkF m 25 #[.val (.ref a), .val (.ref b98), .val (.int (5 : Int32)), .val (.int (1 : Int32)), .val (.ref a_DeleteAction_RESTRICT)] [(.ref a), (.ref a_DeleteAction_RESTRICT_catalogCode)])
  refine cVirt X113 hx hZ hown (by rw [hml]; rfl) e113 (hw _ (List.mem_of_getElem? (i := 61) rfl)) (hw _ (List.mem_of_getElem? (i := 62) rfl)) (hw _ (List.mem_of_getElem? (i := 64) rfl)) (hw _ (List.mem_of_getElem? (i := 63) rfl)) (hw _ (List.mem_of_getElem? (i := 10) rfl)) (hw _ (List.mem_of_getElem? (i := 65) rfl)) (notFace_of_selects (args := #[]) (mvT hZ (hw _ (List.mem_of_getElem? (i := 64) rfl)))) a_DeleteAction_RESTRICT_catalogCode (Exa.ext O103 ex_52) [(.ref a)] [] rfl (rm_streq_1_1 hw a_DeleteAction_RESTRICT_catalogCode a a_DeleteAction_RESTRICT_catalogCode_value b k_a_DeleteAction_RESTRICT_catalogCode_value kb (114 : Int32) (99 : Int32) _ O103 (fun q => absurd (Nat.lt_of_lt_of_le (ex_52).lt f0) (by rw [q]; exact Nat.lt_irrefl _)) F107 cz SCS hcz (Fld.ext O103 ft_56) (Fld.ext O103 ft_54) F108 F109 (Arv.ext av_107 O103) F110) (hb hby d_prog_10_method_4_25) rfl (lenOf pd_10 rfl) (by decide) (by decide) (Nat.le_of_ble_eq_true rfl) (by decide) (by decide) ?_
  rintro v114 T114 h114 L114 X114 e114 ⟨rfl, N114, rfl⟩
  have N114a := Fr.app N111a N114
  show Ends p e below s _ _ _ T114 (mkF m 28 #[.val (.ref a), .val (.ref b98), .val (.int (5 : Int32)), .val (.int (1 : Int32)), .val (.ref a_DeleteAction_RESTRICT)] [(.int (if (114 : Int32) = (99 : Int32) then (1 : Int32) else (0 : Int32)))])
  show Ends p e below s _ _ _ T114 (mkF m 28 #[.val (.ref a), .val (.ref b98), .val (.int (5 : Int32)), .val (.int (1 : Int32)), .val (.ref a_DeleteAction_RESTRICT)] [(.int (0 : Int32))])
  refine go (fun _ => XS.ifYes X114.here hx rfl (pc0 := 28) (pc' := 34) rfl (hb hby d_prog_10_method_4_28) rfl (XT.i0_eq_t ((by decide) : (0 : Int32) = (0 : Int32))) (by decide) (by decide)) ?_
  show Ends p e below s _ _ _ T114 (mkF m 34 #[.val (.ref a), .val (.ref b98), .val (.int (5 : Int32)), .val (.int (1 : Int32)), .val (.ref a_DeleteAction_RESTRICT)] [])
  refine go (fun _ => XT.iincV X114.here hx rfl (1 : Int32) (hb hby d_prog_10_method_4_34) (by decide) rfl (l' := #[.val (.ref a), .val (.ref b98), .val (.int (5 : Int32)), .val (.int (2 : Int32)), .val (.ref a_DeleteAction_RESTRICT)]) rfl) ?_
  show Ends p e below s _ _ _ T114 (mkF m 37 #[.val (.ref a), .val (.ref b98), .val (.int (5 : Int32)), .val (.int (2 : Int32)), .val (.ref a_DeleteAction_RESTRICT)] [])
  refine go (fun _ => XS.goto X114.here hx rfl (pc0 := 37) (pc' := 9) rfl (hb hby d_prog_10_method_4_37) (by decide) (by decide)) ?_
  show Ends p e below s _ _ _ T114 (mkF m 9 #[.val (.ref a), .val (.ref b98), .val (.int (5 : Int32)), .val (.int (2 : Int32)), .val (.ref a_DeleteAction_RESTRICT)] [])
  refine go (fun _ => XS.iloadN X114.here hx rfl (hb hby d_prog_10_method_4_9) rfl) ?_
  show Ends p e below s _ _ _ T114 (mkF m 10 #[.val (.ref a), .val (.ref b98), .val (.int (5 : Int32)), .val (.int (2 : Int32)), .val (.ref a_DeleteAction_RESTRICT)] [(.int (2 : Int32))])
  refine go (fun _ => XS.iloadN X114.here hx rfl (hb hby d_prog_10_method_4_10) rfl) ?_
  show Ends p e below s _ _ _ T114 (mkF m 11 #[.val (.ref a), .val (.ref b98), .val (.int (5 : Int32)), .val (.int (2 : Int32)), .val (.ref a_DeleteAction_RESTRICT)] [(.int (5 : Int32)), (.int (2 : Int32))])
  refine go (fun _ => XS.icmpNo X114.here hx rfl (hb hby d_prog_10_method_4_11) rfl (XT.ii_ge_f ((by decide) : (2 : Int32) < (5 : Int32)))) ?_
  show Ends p e below s _ _ _ T114 (mkF m 14 #[.val (.ref a), .val (.ref b98), .val (.int (5 : Int32)), .val (.int (2 : Int32)), .val (.ref a_DeleteAction_RESTRICT)] [])
  refine go (fun _ => XS.aloadN X114.here hx rfl (hb hby d_prog_10_method_4_14) rfl rfl) ?_
  show Ends p e below s _ _ _ T114 (mkF m 15 #[.val (.ref a), .val (.ref b98), .val (.int (5 : Int32)), .val (.int (2 : Int32)), .val (.ref a_DeleteAction_RESTRICT)] [(.ref b98)])
  refine go (fun _ => XS.iloadN X114.here hx rfl (hb hby d_prog_10_method_4_15) rfl) ?_
  show Ends p e below s _ _ _ T114 (mkF m 16 #[.val (.ref a), .val (.ref b98), .val (.int (5 : Int32)), .val (.int (2 : Int32)), .val (.ref a_DeleteAction_RESTRICT)] [(.int (2 : Int32)), (.ref b98)])
  obtain ⟨c115, A115, -, S115, M115, H115, -⟩ := id V98
  have B115 := inb_of S115 (j := (2 : Int32)) (by decide)
  refine go (fun _ => X114.aaload hx (j := (2 : Int32)) (v := (.ref a_DeleteAction_CASCADE)) (by rw [e114]; exact A115.1) (State.isArrayOf_alike hZ.alike A115.2.1) rfl A115.2.2 B115 (H115.at B115 rfl) (g := (mkF m 16 #[.val (.ref a), .val (.ref b98), .val (.int (5 : Int32)), .val (.int (2 : Int32)), .val (.ref a_DeleteAction_RESTRICT)] [(.int (2 : Int32)), (.ref b98)])) rfl rfl (hb hby d_prog_10_method_4_16) _) ?_
  show Ends p e below s _ _ _ T114 (mkF m 17 #[.val (.ref a), .val (.ref b98), .val (.int (5 : Int32)), .val (.int (2 : Int32)), .val (.ref a_DeleteAction_RESTRICT)] [(.ref a_DeleteAction_CASCADE)])
  refine go (fun _ => XS.astore X114.here hx rfl (hb hby d_prog_10_method_4_17) rfl rfl (l' := #[.val (.ref a), .val (.ref b98), .val (.int (5 : Int32)), .val (.int (2 : Int32)), .val (.ref a_DeleteAction_CASCADE)]) rfl) ?_
  show Ends p e below s _ _ _ T114 (mkF m 19 #[.val (.ref a), .val (.ref b98), .val (.int (5 : Int32)), .val (.int (2 : Int32)), .val (.ref a_DeleteAction_CASCADE)] [])
  refine go (fun _ => XS.aload X114.here hx rfl (hb hby d_prog_10_method_4_19) rfl rfl) ?_
  show Ends p e below s _ _ _ T114 (mkF m 21 #[.val (.ref a), .val (.ref b98), .val (.int (5 : Int32)), .val (.int (2 : Int32)), .val (.ref a_DeleteAction_CASCADE)] [(.ref a_DeleteAction_CASCADE)])
  obtain ⟨T116, X116, e116, s116⟩ := getF X114 hx hZ hown (host := "") (Or.inl (hw _ (List.mem_of_getElem? (i := 59) rfl))) Via.refl e114 (Fld.ext O103 ft_62) (g := (mkF m 21 #[.val (.ref a), .val (.ref b98), .val (.int (5 : Int32)), .val (.int (2 : Int32)), .val (.ref a_DeleteAction_CASCADE)] [(.ref a_DeleteAction_CASCADE)])) rfl rfl (hb hby d_prog_10_method_4_21)
  refine go s116 ?_
  show Ends p e below s _ _ _ T116 (mkF m 24 #[.val (.ref a), .val (.ref b98), .val (.int (5 : Int32)), .val (.int (2 : Int32)), .val (.ref a_DeleteAction_CASCADE)] [(.ref a_DeleteAction_CASCADE_catalogCode)])
  refine go (fun _ => XS.aloadN X116.here hx rfl (hb hby d_prog_10_method_4_24) rfl rfl) ?_
  show Ends p e below s _ _ _ T116 (mkF m 25 #[.val (.ref a), .val (.ref b98), .val (.int (5 : Int32)), .val (.int (2 : Int32)), .val (.ref a_DeleteAction_CASCADE)] [(.ref a), (.ref a_DeleteAction_CASCADE_catalogCode)])
  refine cVirt X116 hx hZ hown (by rw [hml]; rfl) e116 (hw _ (List.mem_of_getElem? (i := 61) rfl)) (hw _ (List.mem_of_getElem? (i := 62) rfl)) (hw _ (List.mem_of_getElem? (i := 64) rfl)) (hw _ (List.mem_of_getElem? (i := 63) rfl)) (hw _ (List.mem_of_getElem? (i := 10) rfl)) (hw _ (List.mem_of_getElem? (i := 65) rfl)) (notFace_of_selects (args := #[]) (mvT hZ (hw _ (List.mem_of_getElem? (i := 64) rfl)))) a_DeleteAction_CASCADE_catalogCode (Exa.ext O103 ex_63) [(.ref a)] [] rfl (rm_streq_1_1 hw a_DeleteAction_CASCADE_catalogCode a a_DeleteAction_CASCADE_catalogCode_value b k_a_DeleteAction_CASCADE_catalogCode_value kb (99 : Int32) (99 : Int32) _ O103 (fun q => absurd (Nat.lt_of_lt_of_le (ex_63).lt f0) (by rw [q]; exact Nat.lt_irrefl _)) F107 cz SCS hcz (Fld.ext O103 ft_67) (Fld.ext O103 ft_65) F108 F109 (Arv.ext av_108 O103) F110) (hb hby d_prog_10_method_4_25) rfl (lenOf pd_10 rfl) (by decide) (by decide) (Nat.le_of_ble_eq_true rfl) (by decide) (by decide) ?_
  rintro v117 T117 h117 L117 X117 e117 ⟨rfl, N117, rfl⟩
  have N117a := Fr.app N114a N117
  show Ends p e below s _ _ _ T117 (mkF m 28 #[.val (.ref a), .val (.ref b98), .val (.int (5 : Int32)), .val (.int (2 : Int32)), .val (.ref a_DeleteAction_CASCADE)] [(.int (if (99 : Int32) = (99 : Int32) then (1 : Int32) else (0 : Int32)))])
  show Ends p e below s _ _ _ T117 (mkF m 28 #[.val (.ref a), .val (.ref b98), .val (.int (5 : Int32)), .val (.int (2 : Int32)), .val (.ref a_DeleteAction_CASCADE)] [(.int (1 : Int32))])
  refine go (fun _ => XS.ifNo X117.here hx rfl (hb hby d_prog_10_method_4_28) rfl (XT.i0_eq_f ((by decide) : ¬ ((1 : Int32) = (0 : Int32))))) ?_
  show Ends p e below s _ _ _ T117 (mkF m 31 #[.val (.ref a), .val (.ref b98), .val (.int (5 : Int32)), .val (.int (2 : Int32)), .val (.ref a_DeleteAction_CASCADE)] [])
  refine go (fun _ => XS.aload X117.here hx rfl (hb hby d_prog_10_method_4_31) rfl rfl) ?_
  show Ends p e below s _ _ _ T117 (mkF m 33 #[.val (.ref a), .val (.ref b98), .val (.int (5 : Int32)), .val (.int (2 : Int32)), .val (.ref a_DeleteAction_CASCADE)] [(.ref a_DeleteAction_CASCADE)])
  have K118 : Keep h0 h98 [] := (Keep.trans K102 K98 all0)
  exact endA X117 hx hlk hret rfl rfl (hb hby d_prog_10_method_4_33) e117 ⟨rfl, N117a, K118⟩ (by decide) (by decide)
set_option maxRecDepth 65536 in
set_option maxHeartbeats 40000000 in
theorem rm_from_110 {l : Launch} {Z : State} {a0 : Array Value} (hw : ∀ d ∈ tables_1, d.before a0 Z = true) (a b : Addr) (kb : ClassId) (a_DeleteAction_NO_ACTION : Addr) (a_DeletionRule_RESTRICT : Addr) (a_DeleteAction__VALUES : Addr) (a_DeleteAction_RESTRICT : Addr) (a_DeleteAction_CASCADE : Addr) (a_DeleteAction_SET_NULL : Addr) (a_DeleteAction_SET_DEFAULT : Addr) (a_DeleteAction_NO_ACTION_catalogCode : Addr) (a_DeleteAction_NO_ACTION_catalogCode_value : Addr) (a_DeletionRule_DETACH : Addr) (a_DeleteAction_RESTRICT_catalogCode : Addr) (a_DeleteAction_RESTRICT_catalogCode_value : Addr) (a_DeleteAction_CASCADE_catalogCode : Addr) (a_DeleteAction_CASCADE_catalogCode_value : Addr) (a_DeleteAction_SET_NULL_catalogCode : Addr) (a_DeleteAction_SET_NULL_catalogCode_value : Addr) (a_DeleteAction_SET_DEFAULT_catalogCode : Addr) (a_DeleteAction_SET_DEFAULT_catalogCode_value : Addr) (a_DeletionRule_CASCADE : Addr) (k_a_DeleteAction__VALUES : ClassId) (k_a_DeleteAction_NO_ACTION_catalogCode_value : ClassId) (k_a_DeleteAction_RESTRICT_catalogCode_value : ClassId) (k_a_DeleteAction_CASCADE_catalogCode_value : ClassId) (k_a_DeleteAction_SET_NULL_catalogCode_value : ClassId) (k_a_DeleteAction_SET_DEFAULT_catalogCode_value : ClassId) (h0 : Heap) (O0 : Ext Z.heap h0) (cz : Int32) (SCS : Sta Z Z.heap "java/lang/String" "COMPACT_STRINGS" "Z" (.int cz)) (hcz : ¬ cz = (0 : Int32)) (ft_2 : Sta Z Z.heap "com/example/scopa/scopa/schema/DeleteAction" "NO_ACTION" "Lcom/example/scopa/scopa/schema/DeleteAction;" (.ref a_DeleteAction_NO_ACTION)) (ft_5 : Sta Z Z.heap "com/example/scopa/scopa/schema/DeletionRule" "RESTRICT" "Lcom/example/scopa/scopa/schema/DeletionRule;" (.ref a_DeletionRule_RESTRICT)) (ft_8 : Sta Z Z.heap "com/example/scopa/scopa/schema/DeleteAction" "$VALUES" "[Lcom/example/scopa/scopa/schema/DeleteAction;" (.ref a_DeleteAction__VALUES)) (ft_15 : Sta Z Z.heap "com/example/scopa/scopa/schema/DeleteAction" "RESTRICT" "Lcom/example/scopa/scopa/schema/DeleteAction;" (.ref a_DeleteAction_RESTRICT)) (ft_20 : Sta Z Z.heap "com/example/scopa/scopa/schema/DeleteAction" "CASCADE" "Lcom/example/scopa/scopa/schema/DeleteAction;" (.ref a_DeleteAction_CASCADE)) (ft_25 : Sta Z Z.heap "com/example/scopa/scopa/schema/DeleteAction" "SET_NULL" "Lcom/example/scopa/scopa/schema/DeleteAction;" (.ref a_DeleteAction_SET_NULL)) (ft_30 : Sta Z Z.heap "com/example/scopa/scopa/schema/DeleteAction" "SET_DEFAULT" "Lcom/example/scopa/scopa/schema/DeleteAction;" (.ref a_DeleteAction_SET_DEFAULT)) (ft_48 : Sta Z Z.heap "com/example/scopa/scopa/schema/DeletionRule" "DETACH" "Lcom/example/scopa/scopa/schema/DeletionRule;" (.ref a_DeletionRule_DETACH)) (ft_101 : Sta Z Z.heap "com/example/scopa/scopa/schema/DeletionRule" "CASCADE" "Lcom/example/scopa/scopa/schema/DeletionRule;" (.ref a_DeletionRule_CASCADE)) (ex_3 : Exa Z Z.heap a_DeleteAction_NO_ACTION "com/example/scopa/scopa/schema/DeleteAction") (ex_6 : Exa Z Z.heap a_DeletionRule_RESTRICT "com/example/scopa/scopa/schema/DeletionRule") (ex_10 : Exa Z Z.heap a_DeleteAction__VALUES "[Lcom/example/scopa/scopa/schema/DeleteAction;") (ex_16 : Exa Z Z.heap a_DeleteAction_RESTRICT "com/example/scopa/scopa/schema/DeleteAction") (ex_21 : Exa Z Z.heap a_DeleteAction_CASCADE "com/example/scopa/scopa/schema/DeleteAction") (ex_26 : Exa Z Z.heap a_DeleteAction_SET_NULL "com/example/scopa/scopa/schema/DeleteAction") (ex_31 : Exa Z Z.heap a_DeleteAction_SET_DEFAULT "com/example/scopa/scopa/schema/DeleteAction") (ex_36 : Exa Z Z.heap a_DeleteAction_NO_ACTION_catalogCode "java/lang/String") (ex_49 : Exa Z Z.heap a_DeletionRule_DETACH "com/example/scopa/scopa/schema/DeletionRule") (ex_52 : Exa Z Z.heap a_DeleteAction_RESTRICT_catalogCode "java/lang/String") (ex_63 : Exa Z Z.heap a_DeleteAction_CASCADE_catalogCode "java/lang/String") (ex_74 : Exa Z Z.heap a_DeleteAction_SET_NULL_catalogCode "java/lang/String") (ex_89 : Exa Z Z.heap a_DeleteAction_SET_DEFAULT_catalogCode "java/lang/String") (ex_102 : Exa Z Z.heap a_DeletionRule_CASCADE "com/example/scopa/scopa/schema/DeletionRule") (ft_35 : Fld Z Z.heap a_DeleteAction_NO_ACTION "com/example/scopa/scopa/schema/DeleteAction" "catalogCode" "Ljava/lang/String;" (.ref a_DeleteAction_NO_ACTION_catalogCode)) (ft_38 : Fld Z Z.heap a_DeleteAction_NO_ACTION_catalogCode "java/lang/String" "coder" "B" (.int (0 : Int32))) (ft_40 : Fld Z Z.heap a_DeleteAction_NO_ACTION_catalogCode "java/lang/String" "value" "[B" (.ref a_DeleteAction_NO_ACTION_catalogCode_value)) (ft_46 : Fld Z Z.heap a_DeleteAction_NO_ACTION "com/example/scopa/scopa/schema/DeleteAction" "rule" "Lcom/example/scopa/scopa/schema/DeletionRule;" (.ref a_DeletionRule_RESTRICT)) (ft_51 : Fld Z Z.heap a_DeleteAction_RESTRICT "com/example/scopa/scopa/schema/DeleteAction" "catalogCode" "Ljava/lang/String;" (.ref a_DeleteAction_RESTRICT_catalogCode)) (ft_54 : Fld Z Z.heap a_DeleteAction_RESTRICT_catalogCode "java/lang/String" "coder" "B" (.int (0 : Int32))) (ft_56 : Fld Z Z.heap a_DeleteAction_RESTRICT_catalogCode "java/lang/String" "value" "[B" (.ref a_DeleteAction_RESTRICT_catalogCode_value)) (ft_62 : Fld Z Z.heap a_DeleteAction_CASCADE "com/example/scopa/scopa/schema/DeleteAction" "catalogCode" "Ljava/lang/String;" (.ref a_DeleteAction_CASCADE_catalogCode)) (ft_65 : Fld Z Z.heap a_DeleteAction_CASCADE_catalogCode "java/lang/String" "coder" "B" (.int (0 : Int32))) (ft_67 : Fld Z Z.heap a_DeleteAction_CASCADE_catalogCode "java/lang/String" "value" "[B" (.ref a_DeleteAction_CASCADE_catalogCode_value)) (ft_73 : Fld Z Z.heap a_DeleteAction_SET_NULL "com/example/scopa/scopa/schema/DeleteAction" "catalogCode" "Ljava/lang/String;" (.ref a_DeleteAction_SET_NULL_catalogCode)) (ft_76 : Fld Z Z.heap a_DeleteAction_SET_NULL_catalogCode "java/lang/String" "coder" "B" (.int (0 : Int32))) (ft_78 : Fld Z Z.heap a_DeleteAction_SET_NULL_catalogCode "java/lang/String" "value" "[B" (.ref a_DeleteAction_SET_NULL_catalogCode_value)) (ft_84 : Fld Z Z.heap a_DeleteAction_SET_NULL "com/example/scopa/scopa/schema/DeleteAction" "rule" "Lcom/example/scopa/scopa/schema/DeletionRule;" (.ref a_DeletionRule_DETACH)) (ft_86 : Fld Z Z.heap a_DeleteAction_RESTRICT "com/example/scopa/scopa/schema/DeleteAction" "rule" "Lcom/example/scopa/scopa/schema/DeletionRule;" (.ref a_DeletionRule_RESTRICT)) (ft_88 : Fld Z Z.heap a_DeleteAction_SET_DEFAULT "com/example/scopa/scopa/schema/DeleteAction" "catalogCode" "Ljava/lang/String;" (.ref a_DeleteAction_SET_DEFAULT_catalogCode)) (ft_91 : Fld Z Z.heap a_DeleteAction_SET_DEFAULT_catalogCode "java/lang/String" "coder" "B" (.int (0 : Int32))) (ft_93 : Fld Z Z.heap a_DeleteAction_SET_DEFAULT_catalogCode "java/lang/String" "value" "[B" (.ref a_DeleteAction_SET_DEFAULT_catalogCode_value)) (ft_99 : Fld Z Z.heap a_DeleteAction_SET_DEFAULT "com/example/scopa/scopa/schema/DeleteAction" "rule" "Lcom/example/scopa/scopa/schema/DeletionRule;" (.ref a_DeletionRule_DETACH)) (ft_104 : Fld Z Z.heap a_DeleteAction_CASCADE "com/example/scopa/scopa/schema/DeleteAction" "rule" "Lcom/example/scopa/scopa/schema/DeletionRule;" (.ref a_DeletionRule_CASCADE)) (av_105 : Arv Z Z.heap a_DeleteAction__VALUES k_a_DeleteAction__VALUES (.object "com/example/scopa/scopa/schema/DeleteAction") (5 : Int32) [(.ref a_DeleteAction_NO_ACTION), (.ref a_DeleteAction_RESTRICT), (.ref a_DeleteAction_CASCADE), (.ref a_DeleteAction_SET_NULL), (.ref a_DeleteAction_SET_DEFAULT)] .null) (av_106 : Arv Z Z.heap a_DeleteAction_NO_ACTION_catalogCode_value k_a_DeleteAction_NO_ACTION_catalogCode_value .byte (1 : Int32) [(.int (97 : Int32))] (.int 0)) (av_107 : Arv Z Z.heap a_DeleteAction_RESTRICT_catalogCode_value k_a_DeleteAction_RESTRICT_catalogCode_value .byte (1 : Int32) [(.int (114 : Int32))] (.int 0)) (av_108 : Arv Z Z.heap a_DeleteAction_CASCADE_catalogCode_value k_a_DeleteAction_CASCADE_catalogCode_value .byte (1 : Int32) [(.int (99 : Int32))] (.int 0)) (av_109 : Arv Z Z.heap a_DeleteAction_SET_NULL_catalogCode_value k_a_DeleteAction_SET_NULL_catalogCode_value .byte (1 : Int32) [(.int (110 : Int32))] (.int 0)) (av_110 : Arv Z Z.heap a_DeleteAction_SET_DEFAULT_catalogCode_value k_a_DeleteAction_SET_DEFAULT_catalogCode_value .byte (1 : Int32) [(.int (100 : Int32))] (.int 0)) (f0 : Z.heap.size ≤ a) (Ea : Exa Z h0 a "java/lang/String") (Fv : Fld Z h0 a "java/lang/String" "value" "[B" (.ref b)) (Fc : Fld Z h0 a "java/lang/String" "coder" "B" (.int 0)) (Vb : Arv Z h0 b kb .byte (1 : Int32) [(.int (110 : Int32))] (.int 0)) :
    Con l (⟨"com/example/scopa/scopa/schema/DeleteAction", "fromCatalogCode", "(Ljava/lang/String;)Lcom/example/scopa/scopa/schema/DeleteAction;"⟩ : MethodName) prog_10_method_4_code 5 (some (.object "com/example/scopa/scopa/schema/DeleteAction")) ({ frames := 2, cells := 1, slots := 5, locals := 28 } : Room) Z #[(.ref a)] h0 (fun v h L => v = some (.ref a_DeleteAction_SET_NULL) ∧ Fr Z.heap.size L ∧ Keep h0 h []) := by
  refine Con.of (plainFor_of_name pn_8) (Ls := #[.val (.ref a), .unset, .unset, .unset, .unset]) (fun m => by first | rfl | (simp [entryFrame, mkF, argsToLocals, Value.category]; done)) ?_
  intro p e s m below meth c T0 X0 hx hZ hby hml hown hnm hret hlk e0
  refine cStat X0 hx hZ hown (by rw [hml]; rfl) e0 (hw _ (List.mem_of_getElem? (i := 40) rfl)) (hw _ (List.mem_of_getElem? (i := 41) rfl)) (hw _ (List.mem_of_getElem? (i := 2) rfl)) (hw _ (List.mem_of_getElem? (i := 42) rfl)) [] [] rfl (rm_values hw a_DeleteAction_NO_ACTION a_DeletionRule_RESTRICT a_DeleteAction__VALUES a_DeleteAction_RESTRICT a_DeleteAction_CASCADE a_DeleteAction_SET_NULL a_DeleteAction_SET_DEFAULT a_DeleteAction_NO_ACTION_catalogCode a_DeleteAction_NO_ACTION_catalogCode_value a_DeletionRule_DETACH a_DeleteAction_RESTRICT_catalogCode a_DeleteAction_RESTRICT_catalogCode_value a_DeleteAction_CASCADE_catalogCode a_DeleteAction_CASCADE_catalogCode_value a_DeleteAction_SET_NULL_catalogCode a_DeleteAction_SET_NULL_catalogCode_value a_DeleteAction_SET_DEFAULT_catalogCode a_DeleteAction_SET_DEFAULT_catalogCode_value a_DeletionRule_CASCADE k_a_DeleteAction__VALUES k_a_DeleteAction_NO_ACTION_catalogCode_value k_a_DeleteAction_RESTRICT_catalogCode_value k_a_DeleteAction_CASCADE_catalogCode_value k_a_DeleteAction_SET_NULL_catalogCode_value k_a_DeleteAction_SET_DEFAULT_catalogCode_value _ O0 ft_2 ft_5 ft_8 ft_15 ft_20 ft_25 ft_30 ft_48 ft_101 ex_3 ex_6 ex_10 ex_16 ex_21 ex_26 ex_31 ex_36 ex_49 ex_52 ex_63 ex_74 ex_89 ex_102 ft_35 ft_38 ft_40 ft_46 ft_51 ft_54 ft_56 ft_62 ft_65 ft_67 ft_73 ft_76 ft_78 ft_84 ft_86 ft_88 ft_91 ft_93 ft_99 ft_104 av_105 av_106 av_107 av_108 av_109 av_110) (hb hby d_prog_10_method_4_0) rfl (lenOf pd_9 rfl) (by decide) (by decide) (Nat.le_of_ble_eq_true rfl) (by decide) (by decide) ?_
  rintro v119 T119 h119 L119 X119 e119 ⟨b119, rfl, N119, K119, g119, V119⟩
  have N119a := Fr.app (Fr.nil _) N119
  have n120 : a ≠ b119 := Nat.ne_of_lt (Nat.lt_of_lt_of_le (Ea.lt) g119)
  have n121 : b ≠ b119 := Nat.ne_of_lt (Nat.lt_of_lt_of_le (Vb.lt) g119)
  have f122 : Z.heap.size ≤ b119 := Nat.le_trans (O0).1 g119
  have K123 : Keep h0 h0 [] := (Keep.refl _ _)
  have b122 : h0.size ≤ b119 := Nat.le_trans (K123).1 g119
  have O124 : Ext Z.heap h119 := xk O0 K119 all0
  show Ends p e below s _ _ _ T119 (mkF m 3 #[.val (.ref a), .unset, .unset, .unset, .unset] [(.ref b119)])
  refine go (fun _ => XS.astoreN X119.here hx rfl (hb hby d_prog_10_method_4_3) rfl rfl (l' := #[.val (.ref a), .val (.ref b119), .unset, .unset, .unset]) rfl) ?_
  show Ends p e below s _ _ _ T119 (mkF m 4 #[.val (.ref a), .val (.ref b119), .unset, .unset, .unset] [])
  refine go (fun _ => XS.aloadN X119.here hx rfl (hb hby d_prog_10_method_4_4) rfl rfl) ?_
  show Ends p e below s _ _ _ T119 (mkF m 5 #[.val (.ref a), .val (.ref b119), .unset, .unset, .unset] [(.ref b119)])
  obtain ⟨c125, A125, -, S125, M125, -⟩ := id V119
  refine go (fun _ => X119.arraylength hx (cell := c125) (by rw [e119]; exact A125.1) (State.isArrayOf_alike hZ.alike A125.2.1) (g := (mkF m 5 #[.val (.ref a), .val (.ref b119), .unset, .unset, .unset] [(.ref b119)])) rfl rfl (hb hby d_prog_10_method_4_5) _) ?_
  rw [len_of S125 M125]
  show Ends p e below s _ _ _ T119 (mkF m 6 #[.val (.ref a), .val (.ref b119), .unset, .unset, .unset] [(.int (5 : Int32))])
  refine go (fun _ => XS.istoreN X119.here hx rfl (hb hby d_prog_10_method_4_6) rfl (l' := #[.val (.ref a), .val (.ref b119), .val (.int (5 : Int32)), .unset, .unset]) rfl) ?_
  show Ends p e below s _ _ _ T119 (mkF m 7 #[.val (.ref a), .val (.ref b119), .val (.int (5 : Int32)), .unset, .unset] [])
  refine go (fun _ => XT.iconstV X119.here hx rfl (0 : Int32) (hb hby d_prog_10_method_4_7) (by decide)) ?_
  show Ends p e below s _ _ _ T119 (mkF m 8 #[.val (.ref a), .val (.ref b119), .val (.int (5 : Int32)), .unset, .unset] [(.int (0 : Int32))])
  refine go (fun _ => XS.istoreN X119.here hx rfl (hb hby d_prog_10_method_4_8) rfl (l' := #[.val (.ref a), .val (.ref b119), .val (.int (5 : Int32)), .val (.int (0 : Int32)), .unset]) rfl) ?_
  show Ends p e below s _ _ _ T119 (mkF m 9 #[.val (.ref a), .val (.ref b119), .val (.int (5 : Int32)), .val (.int (0 : Int32)), .unset] [])
  refine go (fun _ => XS.iloadN X119.here hx rfl (hb hby d_prog_10_method_4_9) rfl) ?_
  show Ends p e below s _ _ _ T119 (mkF m 10 #[.val (.ref a), .val (.ref b119), .val (.int (5 : Int32)), .val (.int (0 : Int32)), .unset] [(.int (0 : Int32))])
  refine go (fun _ => XS.iloadN X119.here hx rfl (hb hby d_prog_10_method_4_10) rfl) ?_
  show Ends p e below s _ _ _ T119 (mkF m 11 #[.val (.ref a), .val (.ref b119), .val (.int (5 : Int32)), .val (.int (0 : Int32)), .unset] [(.int (5 : Int32)), (.int (0 : Int32))])
  refine go (fun _ => XS.icmpNo X119.here hx rfl (hb hby d_prog_10_method_4_11) rfl (XT.ii_ge_f ((by decide) : (0 : Int32) < (5 : Int32)))) ?_
  show Ends p e below s _ _ _ T119 (mkF m 14 #[.val (.ref a), .val (.ref b119), .val (.int (5 : Int32)), .val (.int (0 : Int32)), .unset] [])
  refine go (fun _ => XS.aloadN X119.here hx rfl (hb hby d_prog_10_method_4_14) rfl rfl) ?_
  show Ends p e below s _ _ _ T119 (mkF m 15 #[.val (.ref a), .val (.ref b119), .val (.int (5 : Int32)), .val (.int (0 : Int32)), .unset] [(.ref b119)])
  refine go (fun _ => XS.iloadN X119.here hx rfl (hb hby d_prog_10_method_4_15) rfl) ?_
  show Ends p e below s _ _ _ T119 (mkF m 16 #[.val (.ref a), .val (.ref b119), .val (.int (5 : Int32)), .val (.int (0 : Int32)), .unset] [(.int (0 : Int32)), (.ref b119)])
  obtain ⟨c126, A126, -, S126, M126, H126, -⟩ := id V119
  have B126 := inb_of S126 (j := (0 : Int32)) (by decide)
  refine go (fun _ => X119.aaload hx (j := (0 : Int32)) (v := (.ref a_DeleteAction_NO_ACTION)) (by rw [e119]; exact A126.1) (State.isArrayOf_alike hZ.alike A126.2.1) rfl A126.2.2 B126 (H126.at B126 rfl) (g := (mkF m 16 #[.val (.ref a), .val (.ref b119), .val (.int (5 : Int32)), .val (.int (0 : Int32)), .unset] [(.int (0 : Int32)), (.ref b119)])) rfl rfl (hb hby d_prog_10_method_4_16) _) ?_
  show Ends p e below s _ _ _ T119 (mkF m 17 #[.val (.ref a), .val (.ref b119), .val (.int (5 : Int32)), .val (.int (0 : Int32)), .unset] [(.ref a_DeleteAction_NO_ACTION)])
  refine go (fun _ => XS.astore X119.here hx rfl (hb hby d_prog_10_method_4_17) rfl rfl (l' := #[.val (.ref a), .val (.ref b119), .val (.int (5 : Int32)), .val (.int (0 : Int32)), .val (.ref a_DeleteAction_NO_ACTION)]) rfl) ?_
  show Ends p e below s _ _ _ T119 (mkF m 19 #[.val (.ref a), .val (.ref b119), .val (.int (5 : Int32)), .val (.int (0 : Int32)), .val (.ref a_DeleteAction_NO_ACTION)] [])
  refine go (fun _ => XS.aload X119.here hx rfl (hb hby d_prog_10_method_4_19) rfl rfl) ?_
  show Ends p e below s _ _ _ T119 (mkF m 21 #[.val (.ref a), .val (.ref b119), .val (.int (5 : Int32)), .val (.int (0 : Int32)), .val (.ref a_DeleteAction_NO_ACTION)] [(.ref a_DeleteAction_NO_ACTION)])
  obtain ⟨T127, X127, e127, s127⟩ := getF X119 hx hZ hown (host := "") (Or.inl (hw _ (List.mem_of_getElem? (i := 59) rfl))) Via.refl e119 (Fld.ext O124 ft_35) (g := (mkF m 21 #[.val (.ref a), .val (.ref b119), .val (.int (5 : Int32)), .val (.int (0 : Int32)), .val (.ref a_DeleteAction_NO_ACTION)] [(.ref a_DeleteAction_NO_ACTION)])) rfl rfl (hb hby d_prog_10_method_4_21)
  refine go s127 ?_
  show Ends p e below s _ _ _ T127 (mkF m 24 #[.val (.ref a), .val (.ref b119), .val (.int (5 : Int32)), .val (.int (0 : Int32)), .val (.ref a_DeleteAction_NO_ACTION)] [(.ref a_DeleteAction_NO_ACTION_catalogCode)])
  refine go (fun _ => XS.aloadN X127.here hx rfl (hb hby d_prog_10_method_4_24) rfl rfl) ?_
  show Ends p e below s _ _ _ T127 (mkF m 25 #[.val (.ref a), .val (.ref b119), .val (.int (5 : Int32)), .val (.int (0 : Int32)), .val (.ref a_DeleteAction_NO_ACTION)] [(.ref a), (.ref a_DeleteAction_NO_ACTION_catalogCode)])
  have F128 := (Exa.keep Ea K119)
  have F129 := (Fld.keep Fv K119 nin0)
  have F130 := (Fld.keep Fc K119 nin0)
  have F131 := (Arv.keep Vb K119 nin0)
  refine cVirt X127 hx hZ hown (by rw [hml]; rfl) e127 (hw _ (List.mem_of_getElem? (i := 61) rfl)) (hw _ (List.mem_of_getElem? (i := 62) rfl)) (hw _ (List.mem_of_getElem? (i := 64) rfl)) (hw _ (List.mem_of_getElem? (i := 63) rfl)) (hw _ (List.mem_of_getElem? (i := 10) rfl)) (hw _ (List.mem_of_getElem? (i := 65) rfl)) (notFace_of_selects (args := #[]) (mvT hZ (hw _ (List.mem_of_getElem? (i := 64) rfl)))) a_DeleteAction_NO_ACTION_catalogCode (Exa.ext O124 ex_36) [(.ref a)] [] rfl (rm_streq_1_1 hw a_DeleteAction_NO_ACTION_catalogCode a a_DeleteAction_NO_ACTION_catalogCode_value b k_a_DeleteAction_NO_ACTION_catalogCode_value kb (97 : Int32) (110 : Int32) _ O124 (fun q => absurd (Nat.lt_of_lt_of_le (ex_36).lt f0) (by rw [q]; exact Nat.lt_irrefl _)) F128 cz SCS hcz (Fld.ext O124 ft_40) (Fld.ext O124 ft_38) F129 F130 (Arv.ext av_106 O124) F131) (hb hby d_prog_10_method_4_25) rfl (lenOf pd_10 rfl) (by decide) (by decide) (Nat.le_of_ble_eq_true rfl) (by decide) (by decide) ?_
  rintro v132 T132 h132 L132 X132 e132 ⟨rfl, N132, rfl⟩
  have N132a := Fr.app N119a N132
  show Ends p e below s _ _ _ T132 (mkF m 28 #[.val (.ref a), .val (.ref b119), .val (.int (5 : Int32)), .val (.int (0 : Int32)), .val (.ref a_DeleteAction_NO_ACTION)] [(.int (if (97 : Int32) = (110 : Int32) then (1 : Int32) else (0 : Int32)))])
  show Ends p e below s _ _ _ T132 (mkF m 28 #[.val (.ref a), .val (.ref b119), .val (.int (5 : Int32)), .val (.int (0 : Int32)), .val (.ref a_DeleteAction_NO_ACTION)] [(.int (0 : Int32))])
  refine go (fun _ => XS.ifYes X132.here hx rfl (pc0 := 28) (pc' := 34) rfl (hb hby d_prog_10_method_4_28) rfl (XT.i0_eq_t ((by decide) : (0 : Int32) = (0 : Int32))) (by decide) (by decide)) ?_
  show Ends p e below s _ _ _ T132 (mkF m 34 #[.val (.ref a), .val (.ref b119), .val (.int (5 : Int32)), .val (.int (0 : Int32)), .val (.ref a_DeleteAction_NO_ACTION)] [])
  refine go (fun _ => XT.iincV X132.here hx rfl (1 : Int32) (hb hby d_prog_10_method_4_34) (by decide) rfl (l' := #[.val (.ref a), .val (.ref b119), .val (.int (5 : Int32)), .val (.int (1 : Int32)), .val (.ref a_DeleteAction_NO_ACTION)]) rfl) ?_
  show Ends p e below s _ _ _ T132 (mkF m 37 #[.val (.ref a), .val (.ref b119), .val (.int (5 : Int32)), .val (.int (1 : Int32)), .val (.ref a_DeleteAction_NO_ACTION)] [])
  refine go (fun _ => XS.goto X132.here hx rfl (pc0 := 37) (pc' := 9) rfl (hb hby d_prog_10_method_4_37) (by decide) (by decide)) ?_
  show Ends p e below s _ _ _ T132 (mkF m 9 #[.val (.ref a), .val (.ref b119), .val (.int (5 : Int32)), .val (.int (1 : Int32)), .val (.ref a_DeleteAction_NO_ACTION)] [])
  refine go (fun _ => XS.iloadN X132.here hx rfl (hb hby d_prog_10_method_4_9) rfl) ?_
  show Ends p e below s _ _ _ T132 (mkF m 10 #[.val (.ref a), .val (.ref b119), .val (.int (5 : Int32)), .val (.int (1 : Int32)), .val (.ref a_DeleteAction_NO_ACTION)] [(.int (1 : Int32))])
  refine go (fun _ => XS.iloadN X132.here hx rfl (hb hby d_prog_10_method_4_10) rfl) ?_
  show Ends p e below s _ _ _ T132 (mkF m 11 #[.val (.ref a), .val (.ref b119), .val (.int (5 : Int32)), .val (.int (1 : Int32)), .val (.ref a_DeleteAction_NO_ACTION)] [(.int (5 : Int32)), (.int (1 : Int32))])
  refine go (fun _ => XS.icmpNo X132.here hx rfl (hb hby d_prog_10_method_4_11) rfl (XT.ii_ge_f ((by decide) : (1 : Int32) < (5 : Int32)))) ?_
  show Ends p e below s _ _ _ T132 (mkF m 14 #[.val (.ref a), .val (.ref b119), .val (.int (5 : Int32)), .val (.int (1 : Int32)), .val (.ref a_DeleteAction_NO_ACTION)] [])
  refine go (fun _ => XS.aloadN X132.here hx rfl (hb hby d_prog_10_method_4_14) rfl rfl) ?_
  show Ends p e below s _ _ _ T132 (mkF m 15 #[.val (.ref a), .val (.ref b119), .val (.int (5 : Int32)), .val (.int (1 : Int32)), .val (.ref a_DeleteAction_NO_ACTION)] [(.ref b119)])
  refine go (fun _ => XS.iloadN X132.here hx rfl (hb hby d_prog_10_method_4_15) rfl) ?_
  show Ends p e below s _ _ _ T132 (mkF m 16 #[.val (.ref a), .val (.ref b119), .val (.int (5 : Int32)), .val (.int (1 : Int32)), .val (.ref a_DeleteAction_NO_ACTION)] [(.int (1 : Int32)), (.ref b119)])
  obtain ⟨c133, A133, -, S133, M133, H133, -⟩ := id V119
  have B133 := inb_of S133 (j := (1 : Int32)) (by decide)
  refine go (fun _ => X132.aaload hx (j := (1 : Int32)) (v := (.ref a_DeleteAction_RESTRICT)) (by rw [e132]; exact A133.1) (State.isArrayOf_alike hZ.alike A133.2.1) rfl A133.2.2 B133 (H133.at B133 rfl) (g := (mkF m 16 #[.val (.ref a), .val (.ref b119), .val (.int (5 : Int32)), .val (.int (1 : Int32)), .val (.ref a_DeleteAction_NO_ACTION)] [(.int (1 : Int32)), (.ref b119)])) rfl rfl (hb hby d_prog_10_method_4_16) _) ?_
  show Ends p e below s _ _ _ T132 (mkF m 17 #[.val (.ref a), .val (.ref b119), .val (.int (5 : Int32)), .val (.int (1 : Int32)), .val (.ref a_DeleteAction_NO_ACTION)] [(.ref a_DeleteAction_RESTRICT)])
  refine go (fun _ => XS.astore X132.here hx rfl (hb hby d_prog_10_method_4_17) rfl rfl (l' := #[.val (.ref a), .val (.ref b119), .val (.int (5 : Int32)), .val (.int (1 : Int32)), .val (.ref a_DeleteAction_RESTRICT)]) rfl) ?_
  show Ends p e below s _ _ _ T132 (mkF m 19 #[.val (.ref a), .val (.ref b119), .val (.int (5 : Int32)), .val (.int (1 : Int32)), .val (.ref a_DeleteAction_RESTRICT)] [])
  refine go (fun _ => XS.aload X132.here hx rfl (hb hby d_prog_10_method_4_19) rfl rfl) ?_
  show Ends p e below s _ _ _ T132 (mkF m 21 #[.val (.ref a), .val (.ref b119), .val (.int (5 : Int32)), .val (.int (1 : Int32)), .val (.ref a_DeleteAction_RESTRICT)] [(.ref a_DeleteAction_RESTRICT)])
  obtain ⟨T134, X134, e134, s134⟩ := getF X132 hx hZ hown (host := "") (Or.inl (hw _ (List.mem_of_getElem? (i := 59) rfl))) Via.refl e132 (Fld.ext O124 ft_51) (g := (mkF m 21 #[.val (.ref a), .val (.ref b119), .val (.int (5 : Int32)), .val (.int (1 : Int32)), .val (.ref a_DeleteAction_RESTRICT)] [(.ref a_DeleteAction_RESTRICT)])) rfl rfl (hb hby d_prog_10_method_4_21)
  refine go s134 ?_
  show Ends p e below s _ _ _ T134 (mkF m 24 #[.val (.ref a), .val (.ref b119), .val (.int (5 : Int32)), .val (.int (1 : Int32)), .val (.ref a_DeleteAction_RESTRICT)] [(.ref a_DeleteAction_RESTRICT_catalogCode)])
  refine go (fun _ => XS.aloadN X134.here hx rfl (hb hby d_prog_10_method_4_24) rfl rfl) ?_
  show Ends p e below s _ _ _ T134 (mkF m 25 #[.val (.ref a), .val (.ref b119), .val (.int (5 : Int32)), .val (.int (1 : Int32)), .val (.ref a_DeleteAction_RESTRICT)] [(.ref a), (.ref a_DeleteAction_RESTRICT_catalogCode)])
  refine cVirt X134 hx hZ hown (by rw [hml]; rfl) e134 (hw _ (List.mem_of_getElem? (i := 61) rfl)) (hw _ (List.mem_of_getElem? (i := 62) rfl)) (hw _ (List.mem_of_getElem? (i := 64) rfl)) (hw _ (List.mem_of_getElem? (i := 63) rfl)) (hw _ (List.mem_of_getElem? (i := 10) rfl)) (hw _ (List.mem_of_getElem? (i := 65) rfl)) (notFace_of_selects (args := #[]) (mvT hZ (hw _ (List.mem_of_getElem? (i := 64) rfl)))) a_DeleteAction_RESTRICT_catalogCode (Exa.ext O124 ex_52) [(.ref a)] [] rfl (rm_streq_1_1 hw a_DeleteAction_RESTRICT_catalogCode a a_DeleteAction_RESTRICT_catalogCode_value b k_a_DeleteAction_RESTRICT_catalogCode_value kb (114 : Int32) (110 : Int32) _ O124 (fun q => absurd (Nat.lt_of_lt_of_le (ex_52).lt f0) (by rw [q]; exact Nat.lt_irrefl _)) F128 cz SCS hcz (Fld.ext O124 ft_56) (Fld.ext O124 ft_54) F129 F130 (Arv.ext av_107 O124) F131) (hb hby d_prog_10_method_4_25) rfl (lenOf pd_10 rfl) (by decide) (by decide) (Nat.le_of_ble_eq_true rfl) (by decide) (by decide) ?_
  rintro v135 T135 h135 L135 X135 e135 ⟨rfl, N135, rfl⟩
  have N135a := Fr.app N132a N135
  show Ends p e below s _ _ _ T135 (mkF m 28 #[.val (.ref a), .val (.ref b119), .val (.int (5 : Int32)), .val (.int (1 : Int32)), .val (.ref a_DeleteAction_RESTRICT)] [(.int (if (114 : Int32) = (110 : Int32) then (1 : Int32) else (0 : Int32)))])
  show Ends p e below s _ _ _ T135 (mkF m 28 #[.val (.ref a), .val (.ref b119), .val (.int (5 : Int32)), .val (.int (1 : Int32)), .val (.ref a_DeleteAction_RESTRICT)] [(.int (0 : Int32))])
  refine go (fun _ => XS.ifYes X135.here hx rfl (pc0 := 28) (pc' := 34) rfl (hb hby d_prog_10_method_4_28) rfl (XT.i0_eq_t ((by decide) : (0 : Int32) = (0 : Int32))) (by decide) (by decide)) ?_
  show Ends p e below s _ _ _ T135 (mkF m 34 #[.val (.ref a), .val (.ref b119), .val (.int (5 : Int32)), .val (.int (1 : Int32)), .val (.ref a_DeleteAction_RESTRICT)] [])
  refine go (fun _ => XT.iincV X135.here hx rfl (1 : Int32) (hb hby d_prog_10_method_4_34) (by decide) rfl (l' := #[.val (.ref a), .val (.ref b119), .val (.int (5 : Int32)), .val (.int (2 : Int32)), .val (.ref a_DeleteAction_RESTRICT)]) rfl) ?_
  show Ends p e below s _ _ _ T135 (mkF m 37 #[.val (.ref a), .val (.ref b119), .val (.int (5 : Int32)), .val (.int (2 : Int32)), .val (.ref a_DeleteAction_RESTRICT)] [])
  refine go (fun _ => XS.goto X135.here hx rfl (pc0 := 37) (pc' := 9) rfl (hb hby d_prog_10_method_4_37) (by decide) (by decide)) ?_
  show Ends p e below s _ _ _ T135 (mkF m 9 #[.val (.ref a), .val (.ref b119), .val (.int (5 : Int32)), .val (.int (2 : Int32)), .val (.ref a_DeleteAction_RESTRICT)] [])
  refine go (fun _ => XS.iloadN X135.here hx rfl (hb hby d_prog_10_method_4_9) rfl) ?_
  show Ends p e below s _ _ _ T135 (mkF m 10 #[.val (.ref a), .val (.ref b119), .val (.int (5 : Int32)), .val (.int (2 : Int32)), .val (.ref a_DeleteAction_RESTRICT)] [(.int (2 : Int32))])
  refine go (fun _ => XS.iloadN X135.here hx rfl (hb hby d_prog_10_method_4_10) rfl) ?_
  show Ends p e below s _ _ _ T135 (mkF m 11 #[.val (.ref a), .val (.ref b119), .val (.int (5 : Int32)), .val (.int (2 : Int32)), .val (.ref a_DeleteAction_RESTRICT)] [(.int (5 : Int32)), (.int (2 : Int32))])
  refine go (fun _ => XS.icmpNo X135.here hx rfl (hb hby d_prog_10_method_4_11) rfl (XT.ii_ge_f ((by decide) : (2 : Int32) < (5 : Int32)))) ?_
  show Ends p e below s _ _ _ T135 (mkF m 14 #[.val (.ref a), .val (.ref b119), .val (.int (5 : Int32)), .val (.int (2 : Int32)), .val (.ref a_DeleteAction_RESTRICT)] [])
  refine go (fun _ => XS.aloadN X135.here hx rfl (hb hby d_prog_10_method_4_14) rfl rfl) ?_
  show Ends p e below s _ _ _ T135 (mkF m 15 #[.val (.ref a), .val (.ref b119), .val (.int (5 : Int32)), .val (.int (2 : Int32)), .val (.ref a_DeleteAction_RESTRICT)] [(.ref b119)])
  refine go (fun _ => XS.iloadN X135.here hx rfl (hb hby d_prog_10_method_4_15) rfl) ?_
  show Ends p e below s _ _ _ T135 (mkF m 16 #[.val (.ref a), .val (.ref b119), .val (.int (5 : Int32)), .val (.int (2 : Int32)), .val (.ref a_DeleteAction_RESTRICT)] [(.int (2 : Int32)), (.ref b119)])
  obtain ⟨c136, A136, -, S136, M136, H136, -⟩ := id V119
  have B136 := inb_of S136 (j := (2 : Int32)) (by decide)
  refine go (fun _ => X135.aaload hx (j := (2 : Int32)) (v := (.ref a_DeleteAction_CASCADE)) (by rw [e135]; exact A136.1) (State.isArrayOf_alike hZ.alike A136.2.1) rfl A136.2.2 B136 (H136.at B136 rfl) (g := (mkF m 16 #[.val (.ref a), .val (.ref b119), .val (.int (5 : Int32)), .val (.int (2 : Int32)), .val (.ref a_DeleteAction_RESTRICT)] [(.int (2 : Int32)), (.ref b119)])) rfl rfl (hb hby d_prog_10_method_4_16) _) ?_
  show Ends p e below s _ _ _ T135 (mkF m 17 #[.val (.ref a), .val (.ref b119), .val (.int (5 : Int32)), .val (.int (2 : Int32)), .val (.ref a_DeleteAction_RESTRICT)] [(.ref a_DeleteAction_CASCADE)])
  refine go (fun _ => XS.astore X135.here hx rfl (hb hby d_prog_10_method_4_17) rfl rfl (l' := #[.val (.ref a), .val (.ref b119), .val (.int (5 : Int32)), .val (.int (2 : Int32)), .val (.ref a_DeleteAction_CASCADE)]) rfl) ?_
  show Ends p e below s _ _ _ T135 (mkF m 19 #[.val (.ref a), .val (.ref b119), .val (.int (5 : Int32)), .val (.int (2 : Int32)), .val (.ref a_DeleteAction_CASCADE)] [])
  refine go (fun _ => XS.aload X135.here hx rfl (hb hby d_prog_10_method_4_19) rfl rfl) ?_
  show Ends p e below s _ _ _ T135 (mkF m 21 #[.val (.ref a), .val (.ref b119), .val (.int (5 : Int32)), .val (.int (2 : Int32)), .val (.ref a_DeleteAction_CASCADE)] [(.ref a_DeleteAction_CASCADE)])
  obtain ⟨T137, X137, e137, s137⟩ := getF X135 hx hZ hown (host := "") (Or.inl (hw _ (List.mem_of_getElem? (i := 59) rfl))) Via.refl e135 (Fld.ext O124 ft_62) (g := (mkF m 21 #[.val (.ref a), .val (.ref b119), .val (.int (5 : Int32)), .val (.int (2 : Int32)), .val (.ref a_DeleteAction_CASCADE)] [(.ref a_DeleteAction_CASCADE)])) rfl rfl (hb hby d_prog_10_method_4_21)
  refine go s137 ?_
  show Ends p e below s _ _ _ T137 (mkF m 24 #[.val (.ref a), .val (.ref b119), .val (.int (5 : Int32)), .val (.int (2 : Int32)), .val (.ref a_DeleteAction_CASCADE)] [(.ref a_DeleteAction_CASCADE_catalogCode)])
  refine go (fun _ => XS.aloadN X137.here hx rfl (hb hby d_prog_10_method_4_24) rfl rfl) ?_
  show Ends p e below s _ _ _ T137 (mkF m 25 #[.val (.ref a), .val (.ref b119), .val (.int (5 : Int32)), .val (.int (2 : Int32)), .val (.ref a_DeleteAction_CASCADE)] [(.ref a), (.ref a_DeleteAction_CASCADE_catalogCode)])
  refine cVirt X137 hx hZ hown (by rw [hml]; rfl) e137 (hw _ (List.mem_of_getElem? (i := 61) rfl)) (hw _ (List.mem_of_getElem? (i := 62) rfl)) (hw _ (List.mem_of_getElem? (i := 64) rfl)) (hw _ (List.mem_of_getElem? (i := 63) rfl)) (hw _ (List.mem_of_getElem? (i := 10) rfl)) (hw _ (List.mem_of_getElem? (i := 65) rfl)) (notFace_of_selects (args := #[]) (mvT hZ (hw _ (List.mem_of_getElem? (i := 64) rfl)))) a_DeleteAction_CASCADE_catalogCode (Exa.ext O124 ex_63) [(.ref a)] [] rfl (rm_streq_1_1 hw a_DeleteAction_CASCADE_catalogCode a a_DeleteAction_CASCADE_catalogCode_value b k_a_DeleteAction_CASCADE_catalogCode_value kb (99 : Int32) (110 : Int32) _ O124 (fun q => absurd (Nat.lt_of_lt_of_le (ex_63).lt f0) (by rw [q]; exact Nat.lt_irrefl _)) F128 cz SCS hcz (Fld.ext O124 ft_67) (Fld.ext O124 ft_65) F129 F130 (Arv.ext av_108 O124) F131) (hb hby d_prog_10_method_4_25) rfl (lenOf pd_10 rfl) (by decide) (by decide) (Nat.le_of_ble_eq_true rfl) (by decide) (by decide) ?_
  rintro v138 T138 h138 L138 X138 e138 ⟨rfl, N138, rfl⟩
  have N138a := Fr.app N135a N138
  show Ends p e below s _ _ _ T138 (mkF m 28 #[.val (.ref a), .val (.ref b119), .val (.int (5 : Int32)), .val (.int (2 : Int32)), .val (.ref a_DeleteAction_CASCADE)] [(.int (if (99 : Int32) = (110 : Int32) then (1 : Int32) else (0 : Int32)))])
  show Ends p e below s _ _ _ T138 (mkF m 28 #[.val (.ref a), .val (.ref b119), .val (.int (5 : Int32)), .val (.int (2 : Int32)), .val (.ref a_DeleteAction_CASCADE)] [(.int (0 : Int32))])
  refine go (fun _ => XS.ifYes X138.here hx rfl (pc0 := 28) (pc' := 34) rfl (hb hby d_prog_10_method_4_28) rfl (XT.i0_eq_t ((by decide) : (0 : Int32) = (0 : Int32))) (by decide) (by decide)) ?_
  show Ends p e below s _ _ _ T138 (mkF m 34 #[.val (.ref a), .val (.ref b119), .val (.int (5 : Int32)), .val (.int (2 : Int32)), .val (.ref a_DeleteAction_CASCADE)] [])
  refine go (fun _ => XT.iincV X138.here hx rfl (1 : Int32) (hb hby d_prog_10_method_4_34) (by decide) rfl (l' := #[.val (.ref a), .val (.ref b119), .val (.int (5 : Int32)), .val (.int (3 : Int32)), .val (.ref a_DeleteAction_CASCADE)]) rfl) ?_
  show Ends p e below s _ _ _ T138 (mkF m 37 #[.val (.ref a), .val (.ref b119), .val (.int (5 : Int32)), .val (.int (3 : Int32)), .val (.ref a_DeleteAction_CASCADE)] [])
  refine go (fun _ => XS.goto X138.here hx rfl (pc0 := 37) (pc' := 9) rfl (hb hby d_prog_10_method_4_37) (by decide) (by decide)) ?_
  show Ends p e below s _ _ _ T138 (mkF m 9 #[.val (.ref a), .val (.ref b119), .val (.int (5 : Int32)), .val (.int (3 : Int32)), .val (.ref a_DeleteAction_CASCADE)] [])
  refine go (fun _ => XS.iloadN X138.here hx rfl (hb hby d_prog_10_method_4_9) rfl) ?_
  show Ends p e below s _ _ _ T138 (mkF m 10 #[.val (.ref a), .val (.ref b119), .val (.int (5 : Int32)), .val (.int (3 : Int32)), .val (.ref a_DeleteAction_CASCADE)] [(.int (3 : Int32))])
  refine go (fun _ => XS.iloadN X138.here hx rfl (hb hby d_prog_10_method_4_10) rfl) ?_
  show Ends p e below s _ _ _ T138 (mkF m 11 #[.val (.ref a), .val (.ref b119), .val (.int (5 : Int32)), .val (.int (3 : Int32)), .val (.ref a_DeleteAction_CASCADE)] [(.int (5 : Int32)), (.int (3 : Int32))])
  refine go (fun _ => XS.icmpNo X138.here hx rfl (hb hby d_prog_10_method_4_11) rfl (XT.ii_ge_f ((by decide) : (3 : Int32) < (5 : Int32)))) ?_
  show Ends p e below s _ _ _ T138 (mkF m 14 #[.val (.ref a), .val (.ref b119), .val (.int (5 : Int32)), .val (.int (3 : Int32)), .val (.ref a_DeleteAction_CASCADE)] [])
  refine go (fun _ => XS.aloadN X138.here hx rfl (hb hby d_prog_10_method_4_14) rfl rfl) ?_
  show Ends p e below s _ _ _ T138 (mkF m 15 #[.val (.ref a), .val (.ref b119), .val (.int (5 : Int32)), .val (.int (3 : Int32)), .val (.ref a_DeleteAction_CASCADE)] [(.ref b119)])
  refine go (fun _ => XS.iloadN X138.here hx rfl (hb hby d_prog_10_method_4_15) rfl) ?_
  show Ends p e below s _ _ _ T138 (mkF m 16 #[.val (.ref a), .val (.ref b119), .val (.int (5 : Int32)), .val (.int (3 : Int32)), .val (.ref a_DeleteAction_CASCADE)] [(.int (3 : Int32)), (.ref b119)])
  obtain ⟨c139, A139, -, S139, M139, H139, -⟩ := id V119
  have B139 := inb_of S139 (j := (3 : Int32)) (by decide)
  refine go (fun _ => X138.aaload hx (j := (3 : Int32)) (v := (.ref a_DeleteAction_SET_NULL)) (by rw [e138]; exact A139.1) (State.isArrayOf_alike hZ.alike A139.2.1) rfl A139.2.2 B139 (H139.at B139 rfl) (g := (mkF m 16 #[.val (.ref a), .val (.ref b119), .val (.int (5 : Int32)), .val (.int (3 : Int32)), .val (.ref a_DeleteAction_CASCADE)] [(.int (3 : Int32)), (.ref b119)])) rfl rfl (hb hby d_prog_10_method_4_16) _) ?_
  show Ends p e below s _ _ _ T138 (mkF m 17 #[.val (.ref a), .val (.ref b119), .val (.int (5 : Int32)), .val (.int (3 : Int32)), .val (.ref a_DeleteAction_CASCADE)] [(.ref a_DeleteAction_SET_NULL)])
  refine go (fun _ => XS.astore X138.here hx rfl (hb hby d_prog_10_method_4_17) rfl rfl (l' := #[.val (.ref a), .val (.ref b119), .val (.int (5 : Int32)), .val (.int (3 : Int32)), .val (.ref a_DeleteAction_SET_NULL)]) rfl) ?_
  show Ends p e below s _ _ _ T138 (mkF m 19 #[.val (.ref a), .val (.ref b119), .val (.int (5 : Int32)), .val (.int (3 : Int32)), .val (.ref a_DeleteAction_SET_NULL)] [])
  refine go (fun _ => XS.aload X138.here hx rfl (hb hby d_prog_10_method_4_19) rfl rfl) ?_
  show Ends p e below s _ _ _ T138 (mkF m 21 #[.val (.ref a), .val (.ref b119), .val (.int (5 : Int32)), .val (.int (3 : Int32)), .val (.ref a_DeleteAction_SET_NULL)] [(.ref a_DeleteAction_SET_NULL)])
  obtain ⟨T140, X140, e140, s140⟩ := getF X138 hx hZ hown (host := "") (Or.inl (hw _ (List.mem_of_getElem? (i := 59) rfl))) Via.refl e138 (Fld.ext O124 ft_73) (g := (mkF m 21 #[.val (.ref a), .val (.ref b119), .val (.int (5 : Int32)), .val (.int (3 : Int32)), .val (.ref a_DeleteAction_SET_NULL)] [(.ref a_DeleteAction_SET_NULL)])) rfl rfl (hb hby d_prog_10_method_4_21)
  refine go s140 ?_
  show Ends p e below s _ _ _ T140 (mkF m 24 #[.val (.ref a), .val (.ref b119), .val (.int (5 : Int32)), .val (.int (3 : Int32)), .val (.ref a_DeleteAction_SET_NULL)] [(.ref a_DeleteAction_SET_NULL_catalogCode)])
  refine go (fun _ => XS.aloadN X140.here hx rfl (hb hby d_prog_10_method_4_24) rfl rfl) ?_
  show Ends p e below s _ _ _ T140 (mkF m 25 #[.val (.ref a), .val (.ref b119), .val (.int (5 : Int32)), .val (.int (3 : Int32)), .val (.ref a_DeleteAction_SET_NULL)] [(.ref a), (.ref a_DeleteAction_SET_NULL_catalogCode)])
  refine cVirt X140 hx hZ hown (by rw [hml]; rfl) e140 (hw _ (List.mem_of_getElem? (i := 61) rfl)) (hw _ (List.mem_of_getElem? (i := 62) rfl)) (hw _ (List.mem_of_getElem? (i := 64) rfl)) (hw _ (List.mem_of_getElem? (i := 63) rfl)) (hw _ (List.mem_of_getElem? (i := 10) rfl)) (hw _ (List.mem_of_getElem? (i := 65) rfl)) (notFace_of_selects (args := #[]) (mvT hZ (hw _ (List.mem_of_getElem? (i := 64) rfl)))) a_DeleteAction_SET_NULL_catalogCode (Exa.ext O124 ex_74) [(.ref a)] [] rfl (rm_streq_1_1 hw a_DeleteAction_SET_NULL_catalogCode a a_DeleteAction_SET_NULL_catalogCode_value b k_a_DeleteAction_SET_NULL_catalogCode_value kb (110 : Int32) (110 : Int32) _ O124 (fun q => absurd (Nat.lt_of_lt_of_le (ex_74).lt f0) (by rw [q]; exact Nat.lt_irrefl _)) F128 cz SCS hcz (Fld.ext O124 ft_78) (Fld.ext O124 ft_76) F129 F130 (Arv.ext av_109 O124) F131) (hb hby d_prog_10_method_4_25) rfl (lenOf pd_10 rfl) (by decide) (by decide) (Nat.le_of_ble_eq_true rfl) (by decide) (by decide) ?_
  rintro v141 T141 h141 L141 X141 e141 ⟨rfl, N141, rfl⟩
  have N141a := Fr.app N138a N141
  show Ends p e below s _ _ _ T141 (mkF m 28 #[.val (.ref a), .val (.ref b119), .val (.int (5 : Int32)), .val (.int (3 : Int32)), .val (.ref a_DeleteAction_SET_NULL)] [(.int (if (110 : Int32) = (110 : Int32) then (1 : Int32) else (0 : Int32)))])
  show Ends p e below s _ _ _ T141 (mkF m 28 #[.val (.ref a), .val (.ref b119), .val (.int (5 : Int32)), .val (.int (3 : Int32)), .val (.ref a_DeleteAction_SET_NULL)] [(.int (1 : Int32))])
  refine go (fun _ => XS.ifNo X141.here hx rfl (hb hby d_prog_10_method_4_28) rfl (XT.i0_eq_f ((by decide) : ¬ ((1 : Int32) = (0 : Int32))))) ?_
  show Ends p e below s _ _ _ T141 (mkF m 31 #[.val (.ref a), .val (.ref b119), .val (.int (5 : Int32)), .val (.int (3 : Int32)), .val (.ref a_DeleteAction_SET_NULL)] [])
  refine go (fun _ => XS.aload X141.here hx rfl (hb hby d_prog_10_method_4_31) rfl rfl) ?_
  show Ends p e below s _ _ _ T141 (mkF m 33 #[.val (.ref a), .val (.ref b119), .val (.int (5 : Int32)), .val (.int (3 : Int32)), .val (.ref a_DeleteAction_SET_NULL)] [(.ref a_DeleteAction_SET_NULL)])
  have K142 : Keep h0 h119 [] := (Keep.trans K123 K119 all0)
  exact endA X141 hx hlk hret rfl rfl (hb hby d_prog_10_method_4_33) e141 ⟨rfl, N141a, K142⟩ (by decide) (by decide)
set_option maxRecDepth 65536 in
set_option maxHeartbeats 40000000 in
theorem rm_from_100 {l : Launch} {Z : State} {a0 : Array Value} (hw : ∀ d ∈ tables_1, d.before a0 Z = true) (a b : Addr) (kb : ClassId) (a_DeleteAction_NO_ACTION : Addr) (a_DeletionRule_RESTRICT : Addr) (a_DeleteAction__VALUES : Addr) (a_DeleteAction_RESTRICT : Addr) (a_DeleteAction_CASCADE : Addr) (a_DeleteAction_SET_NULL : Addr) (a_DeleteAction_SET_DEFAULT : Addr) (a_DeleteAction_NO_ACTION_catalogCode : Addr) (a_DeleteAction_NO_ACTION_catalogCode_value : Addr) (a_DeletionRule_DETACH : Addr) (a_DeleteAction_RESTRICT_catalogCode : Addr) (a_DeleteAction_RESTRICT_catalogCode_value : Addr) (a_DeleteAction_CASCADE_catalogCode : Addr) (a_DeleteAction_CASCADE_catalogCode_value : Addr) (a_DeleteAction_SET_NULL_catalogCode : Addr) (a_DeleteAction_SET_NULL_catalogCode_value : Addr) (a_DeleteAction_SET_DEFAULT_catalogCode : Addr) (a_DeleteAction_SET_DEFAULT_catalogCode_value : Addr) (a_DeletionRule_CASCADE : Addr) (k_a_DeleteAction__VALUES : ClassId) (k_a_DeleteAction_NO_ACTION_catalogCode_value : ClassId) (k_a_DeleteAction_RESTRICT_catalogCode_value : ClassId) (k_a_DeleteAction_CASCADE_catalogCode_value : ClassId) (k_a_DeleteAction_SET_NULL_catalogCode_value : ClassId) (k_a_DeleteAction_SET_DEFAULT_catalogCode_value : ClassId) (h0 : Heap) (O0 : Ext Z.heap h0) (cz : Int32) (SCS : Sta Z Z.heap "java/lang/String" "COMPACT_STRINGS" "Z" (.int cz)) (hcz : ¬ cz = (0 : Int32)) (ft_2 : Sta Z Z.heap "com/example/scopa/scopa/schema/DeleteAction" "NO_ACTION" "Lcom/example/scopa/scopa/schema/DeleteAction;" (.ref a_DeleteAction_NO_ACTION)) (ft_5 : Sta Z Z.heap "com/example/scopa/scopa/schema/DeletionRule" "RESTRICT" "Lcom/example/scopa/scopa/schema/DeletionRule;" (.ref a_DeletionRule_RESTRICT)) (ft_8 : Sta Z Z.heap "com/example/scopa/scopa/schema/DeleteAction" "$VALUES" "[Lcom/example/scopa/scopa/schema/DeleteAction;" (.ref a_DeleteAction__VALUES)) (ft_15 : Sta Z Z.heap "com/example/scopa/scopa/schema/DeleteAction" "RESTRICT" "Lcom/example/scopa/scopa/schema/DeleteAction;" (.ref a_DeleteAction_RESTRICT)) (ft_20 : Sta Z Z.heap "com/example/scopa/scopa/schema/DeleteAction" "CASCADE" "Lcom/example/scopa/scopa/schema/DeleteAction;" (.ref a_DeleteAction_CASCADE)) (ft_25 : Sta Z Z.heap "com/example/scopa/scopa/schema/DeleteAction" "SET_NULL" "Lcom/example/scopa/scopa/schema/DeleteAction;" (.ref a_DeleteAction_SET_NULL)) (ft_30 : Sta Z Z.heap "com/example/scopa/scopa/schema/DeleteAction" "SET_DEFAULT" "Lcom/example/scopa/scopa/schema/DeleteAction;" (.ref a_DeleteAction_SET_DEFAULT)) (ft_48 : Sta Z Z.heap "com/example/scopa/scopa/schema/DeletionRule" "DETACH" "Lcom/example/scopa/scopa/schema/DeletionRule;" (.ref a_DeletionRule_DETACH)) (ft_101 : Sta Z Z.heap "com/example/scopa/scopa/schema/DeletionRule" "CASCADE" "Lcom/example/scopa/scopa/schema/DeletionRule;" (.ref a_DeletionRule_CASCADE)) (ex_3 : Exa Z Z.heap a_DeleteAction_NO_ACTION "com/example/scopa/scopa/schema/DeleteAction") (ex_6 : Exa Z Z.heap a_DeletionRule_RESTRICT "com/example/scopa/scopa/schema/DeletionRule") (ex_10 : Exa Z Z.heap a_DeleteAction__VALUES "[Lcom/example/scopa/scopa/schema/DeleteAction;") (ex_16 : Exa Z Z.heap a_DeleteAction_RESTRICT "com/example/scopa/scopa/schema/DeleteAction") (ex_21 : Exa Z Z.heap a_DeleteAction_CASCADE "com/example/scopa/scopa/schema/DeleteAction") (ex_26 : Exa Z Z.heap a_DeleteAction_SET_NULL "com/example/scopa/scopa/schema/DeleteAction") (ex_31 : Exa Z Z.heap a_DeleteAction_SET_DEFAULT "com/example/scopa/scopa/schema/DeleteAction") (ex_36 : Exa Z Z.heap a_DeleteAction_NO_ACTION_catalogCode "java/lang/String") (ex_49 : Exa Z Z.heap a_DeletionRule_DETACH "com/example/scopa/scopa/schema/DeletionRule") (ex_52 : Exa Z Z.heap a_DeleteAction_RESTRICT_catalogCode "java/lang/String") (ex_63 : Exa Z Z.heap a_DeleteAction_CASCADE_catalogCode "java/lang/String") (ex_74 : Exa Z Z.heap a_DeleteAction_SET_NULL_catalogCode "java/lang/String") (ex_89 : Exa Z Z.heap a_DeleteAction_SET_DEFAULT_catalogCode "java/lang/String") (ex_102 : Exa Z Z.heap a_DeletionRule_CASCADE "com/example/scopa/scopa/schema/DeletionRule") (ft_35 : Fld Z Z.heap a_DeleteAction_NO_ACTION "com/example/scopa/scopa/schema/DeleteAction" "catalogCode" "Ljava/lang/String;" (.ref a_DeleteAction_NO_ACTION_catalogCode)) (ft_38 : Fld Z Z.heap a_DeleteAction_NO_ACTION_catalogCode "java/lang/String" "coder" "B" (.int (0 : Int32))) (ft_40 : Fld Z Z.heap a_DeleteAction_NO_ACTION_catalogCode "java/lang/String" "value" "[B" (.ref a_DeleteAction_NO_ACTION_catalogCode_value)) (ft_46 : Fld Z Z.heap a_DeleteAction_NO_ACTION "com/example/scopa/scopa/schema/DeleteAction" "rule" "Lcom/example/scopa/scopa/schema/DeletionRule;" (.ref a_DeletionRule_RESTRICT)) (ft_51 : Fld Z Z.heap a_DeleteAction_RESTRICT "com/example/scopa/scopa/schema/DeleteAction" "catalogCode" "Ljava/lang/String;" (.ref a_DeleteAction_RESTRICT_catalogCode)) (ft_54 : Fld Z Z.heap a_DeleteAction_RESTRICT_catalogCode "java/lang/String" "coder" "B" (.int (0 : Int32))) (ft_56 : Fld Z Z.heap a_DeleteAction_RESTRICT_catalogCode "java/lang/String" "value" "[B" (.ref a_DeleteAction_RESTRICT_catalogCode_value)) (ft_62 : Fld Z Z.heap a_DeleteAction_CASCADE "com/example/scopa/scopa/schema/DeleteAction" "catalogCode" "Ljava/lang/String;" (.ref a_DeleteAction_CASCADE_catalogCode)) (ft_65 : Fld Z Z.heap a_DeleteAction_CASCADE_catalogCode "java/lang/String" "coder" "B" (.int (0 : Int32))) (ft_67 : Fld Z Z.heap a_DeleteAction_CASCADE_catalogCode "java/lang/String" "value" "[B" (.ref a_DeleteAction_CASCADE_catalogCode_value)) (ft_73 : Fld Z Z.heap a_DeleteAction_SET_NULL "com/example/scopa/scopa/schema/DeleteAction" "catalogCode" "Ljava/lang/String;" (.ref a_DeleteAction_SET_NULL_catalogCode)) (ft_76 : Fld Z Z.heap a_DeleteAction_SET_NULL_catalogCode "java/lang/String" "coder" "B" (.int (0 : Int32))) (ft_78 : Fld Z Z.heap a_DeleteAction_SET_NULL_catalogCode "java/lang/String" "value" "[B" (.ref a_DeleteAction_SET_NULL_catalogCode_value)) (ft_84 : Fld Z Z.heap a_DeleteAction_SET_NULL "com/example/scopa/scopa/schema/DeleteAction" "rule" "Lcom/example/scopa/scopa/schema/DeletionRule;" (.ref a_DeletionRule_DETACH)) (ft_86 : Fld Z Z.heap a_DeleteAction_RESTRICT "com/example/scopa/scopa/schema/DeleteAction" "rule" "Lcom/example/scopa/scopa/schema/DeletionRule;" (.ref a_DeletionRule_RESTRICT)) (ft_88 : Fld Z Z.heap a_DeleteAction_SET_DEFAULT "com/example/scopa/scopa/schema/DeleteAction" "catalogCode" "Ljava/lang/String;" (.ref a_DeleteAction_SET_DEFAULT_catalogCode)) (ft_91 : Fld Z Z.heap a_DeleteAction_SET_DEFAULT_catalogCode "java/lang/String" "coder" "B" (.int (0 : Int32))) (ft_93 : Fld Z Z.heap a_DeleteAction_SET_DEFAULT_catalogCode "java/lang/String" "value" "[B" (.ref a_DeleteAction_SET_DEFAULT_catalogCode_value)) (ft_99 : Fld Z Z.heap a_DeleteAction_SET_DEFAULT "com/example/scopa/scopa/schema/DeleteAction" "rule" "Lcom/example/scopa/scopa/schema/DeletionRule;" (.ref a_DeletionRule_DETACH)) (ft_104 : Fld Z Z.heap a_DeleteAction_CASCADE "com/example/scopa/scopa/schema/DeleteAction" "rule" "Lcom/example/scopa/scopa/schema/DeletionRule;" (.ref a_DeletionRule_CASCADE)) (av_105 : Arv Z Z.heap a_DeleteAction__VALUES k_a_DeleteAction__VALUES (.object "com/example/scopa/scopa/schema/DeleteAction") (5 : Int32) [(.ref a_DeleteAction_NO_ACTION), (.ref a_DeleteAction_RESTRICT), (.ref a_DeleteAction_CASCADE), (.ref a_DeleteAction_SET_NULL), (.ref a_DeleteAction_SET_DEFAULT)] .null) (av_106 : Arv Z Z.heap a_DeleteAction_NO_ACTION_catalogCode_value k_a_DeleteAction_NO_ACTION_catalogCode_value .byte (1 : Int32) [(.int (97 : Int32))] (.int 0)) (av_107 : Arv Z Z.heap a_DeleteAction_RESTRICT_catalogCode_value k_a_DeleteAction_RESTRICT_catalogCode_value .byte (1 : Int32) [(.int (114 : Int32))] (.int 0)) (av_108 : Arv Z Z.heap a_DeleteAction_CASCADE_catalogCode_value k_a_DeleteAction_CASCADE_catalogCode_value .byte (1 : Int32) [(.int (99 : Int32))] (.int 0)) (av_109 : Arv Z Z.heap a_DeleteAction_SET_NULL_catalogCode_value k_a_DeleteAction_SET_NULL_catalogCode_value .byte (1 : Int32) [(.int (110 : Int32))] (.int 0)) (av_110 : Arv Z Z.heap a_DeleteAction_SET_DEFAULT_catalogCode_value k_a_DeleteAction_SET_DEFAULT_catalogCode_value .byte (1 : Int32) [(.int (100 : Int32))] (.int 0)) (f0 : Z.heap.size ≤ a) (Ea : Exa Z h0 a "java/lang/String") (Fv : Fld Z h0 a "java/lang/String" "value" "[B" (.ref b)) (Fc : Fld Z h0 a "java/lang/String" "coder" "B" (.int 0)) (Vb : Arv Z h0 b kb .byte (1 : Int32) [(.int (100 : Int32))] (.int 0)) :
    Con l (⟨"com/example/scopa/scopa/schema/DeleteAction", "fromCatalogCode", "(Ljava/lang/String;)Lcom/example/scopa/scopa/schema/DeleteAction;"⟩ : MethodName) prog_10_method_4_code 5 (some (.object "com/example/scopa/scopa/schema/DeleteAction")) ({ frames := 2, cells := 1, slots := 5, locals := 28 } : Room) Z #[(.ref a)] h0 (fun v h L => v = some (.ref a_DeleteAction_SET_DEFAULT) ∧ Fr Z.heap.size L ∧ Keep h0 h []) := by
  refine Con.of (plainFor_of_name pn_8) (Ls := #[.val (.ref a), .unset, .unset, .unset, .unset]) (fun m => by first | rfl | (simp [entryFrame, mkF, argsToLocals, Value.category]; done)) ?_
  intro p e s m below meth c T0 X0 hx hZ hby hml hown hnm hret hlk e0
  refine cStat X0 hx hZ hown (by rw [hml]; rfl) e0 (hw _ (List.mem_of_getElem? (i := 40) rfl)) (hw _ (List.mem_of_getElem? (i := 41) rfl)) (hw _ (List.mem_of_getElem? (i := 2) rfl)) (hw _ (List.mem_of_getElem? (i := 42) rfl)) [] [] rfl (rm_values hw a_DeleteAction_NO_ACTION a_DeletionRule_RESTRICT a_DeleteAction__VALUES a_DeleteAction_RESTRICT a_DeleteAction_CASCADE a_DeleteAction_SET_NULL a_DeleteAction_SET_DEFAULT a_DeleteAction_NO_ACTION_catalogCode a_DeleteAction_NO_ACTION_catalogCode_value a_DeletionRule_DETACH a_DeleteAction_RESTRICT_catalogCode a_DeleteAction_RESTRICT_catalogCode_value a_DeleteAction_CASCADE_catalogCode a_DeleteAction_CASCADE_catalogCode_value a_DeleteAction_SET_NULL_catalogCode a_DeleteAction_SET_NULL_catalogCode_value a_DeleteAction_SET_DEFAULT_catalogCode a_DeleteAction_SET_DEFAULT_catalogCode_value a_DeletionRule_CASCADE k_a_DeleteAction__VALUES k_a_DeleteAction_NO_ACTION_catalogCode_value k_a_DeleteAction_RESTRICT_catalogCode_value k_a_DeleteAction_CASCADE_catalogCode_value k_a_DeleteAction_SET_NULL_catalogCode_value k_a_DeleteAction_SET_DEFAULT_catalogCode_value _ O0 ft_2 ft_5 ft_8 ft_15 ft_20 ft_25 ft_30 ft_48 ft_101 ex_3 ex_6 ex_10 ex_16 ex_21 ex_26 ex_31 ex_36 ex_49 ex_52 ex_63 ex_74 ex_89 ex_102 ft_35 ft_38 ft_40 ft_46 ft_51 ft_54 ft_56 ft_62 ft_65 ft_67 ft_73 ft_76 ft_78 ft_84 ft_86 ft_88 ft_91 ft_93 ft_99 ft_104 av_105 av_106 av_107 av_108 av_109 av_110) (hb hby d_prog_10_method_4_0) rfl (lenOf pd_9 rfl) (by decide) (by decide) (Nat.le_of_ble_eq_true rfl) (by decide) (by decide) ?_
  rintro v143 T143 h143 L143 X143 e143 ⟨b143, rfl, N143, K143, g143, V143⟩
  have N143a := Fr.app (Fr.nil _) N143
  have n144 : a ≠ b143 := Nat.ne_of_lt (Nat.lt_of_lt_of_le (Ea.lt) g143)
  have n145 : b ≠ b143 := Nat.ne_of_lt (Nat.lt_of_lt_of_le (Vb.lt) g143)
  have f146 : Z.heap.size ≤ b143 := Nat.le_trans (O0).1 g143
  have K147 : Keep h0 h0 [] := (Keep.refl _ _)
  have b146 : h0.size ≤ b143 := Nat.le_trans (K147).1 g143
  have O148 : Ext Z.heap h143 := xk O0 K143 all0
  show Ends p e below s _ _ _ T143 (mkF m 3 #[.val (.ref a), .unset, .unset, .unset, .unset] [(.ref b143)])
  refine go (fun _ => XS.astoreN X143.here hx rfl (hb hby d_prog_10_method_4_3) rfl rfl (l' := #[.val (.ref a), .val (.ref b143), .unset, .unset, .unset]) rfl) ?_
  show Ends p e below s _ _ _ T143 (mkF m 4 #[.val (.ref a), .val (.ref b143), .unset, .unset, .unset] [])
  refine go (fun _ => XS.aloadN X143.here hx rfl (hb hby d_prog_10_method_4_4) rfl rfl) ?_
  show Ends p e below s _ _ _ T143 (mkF m 5 #[.val (.ref a), .val (.ref b143), .unset, .unset, .unset] [(.ref b143)])
  obtain ⟨c149, A149, -, S149, M149, -⟩ := id V143
  refine go (fun _ => X143.arraylength hx (cell := c149) (by rw [e143]; exact A149.1) (State.isArrayOf_alike hZ.alike A149.2.1) (g := (mkF m 5 #[.val (.ref a), .val (.ref b143), .unset, .unset, .unset] [(.ref b143)])) rfl rfl (hb hby d_prog_10_method_4_5) _) ?_
  rw [len_of S149 M149]
  show Ends p e below s _ _ _ T143 (mkF m 6 #[.val (.ref a), .val (.ref b143), .unset, .unset, .unset] [(.int (5 : Int32))])
  refine go (fun _ => XS.istoreN X143.here hx rfl (hb hby d_prog_10_method_4_6) rfl (l' := #[.val (.ref a), .val (.ref b143), .val (.int (5 : Int32)), .unset, .unset]) rfl) ?_
  show Ends p e below s _ _ _ T143 (mkF m 7 #[.val (.ref a), .val (.ref b143), .val (.int (5 : Int32)), .unset, .unset] [])
  refine go (fun _ => XT.iconstV X143.here hx rfl (0 : Int32) (hb hby d_prog_10_method_4_7) (by decide)) ?_
  show Ends p e below s _ _ _ T143 (mkF m 8 #[.val (.ref a), .val (.ref b143), .val (.int (5 : Int32)), .unset, .unset] [(.int (0 : Int32))])
  refine go (fun _ => XS.istoreN X143.here hx rfl (hb hby d_prog_10_method_4_8) rfl (l' := #[.val (.ref a), .val (.ref b143), .val (.int (5 : Int32)), .val (.int (0 : Int32)), .unset]) rfl) ?_
  show Ends p e below s _ _ _ T143 (mkF m 9 #[.val (.ref a), .val (.ref b143), .val (.int (5 : Int32)), .val (.int (0 : Int32)), .unset] [])
  refine go (fun _ => XS.iloadN X143.here hx rfl (hb hby d_prog_10_method_4_9) rfl) ?_
  show Ends p e below s _ _ _ T143 (mkF m 10 #[.val (.ref a), .val (.ref b143), .val (.int (5 : Int32)), .val (.int (0 : Int32)), .unset] [(.int (0 : Int32))])
  refine go (fun _ => XS.iloadN X143.here hx rfl (hb hby d_prog_10_method_4_10) rfl) ?_
  show Ends p e below s _ _ _ T143 (mkF m 11 #[.val (.ref a), .val (.ref b143), .val (.int (5 : Int32)), .val (.int (0 : Int32)), .unset] [(.int (5 : Int32)), (.int (0 : Int32))])
  refine go (fun _ => XS.icmpNo X143.here hx rfl (hb hby d_prog_10_method_4_11) rfl (XT.ii_ge_f ((by decide) : (0 : Int32) < (5 : Int32)))) ?_
  show Ends p e below s _ _ _ T143 (mkF m 14 #[.val (.ref a), .val (.ref b143), .val (.int (5 : Int32)), .val (.int (0 : Int32)), .unset] [])
  refine go (fun _ => XS.aloadN X143.here hx rfl (hb hby d_prog_10_method_4_14) rfl rfl) ?_
  show Ends p e below s _ _ _ T143 (mkF m 15 #[.val (.ref a), .val (.ref b143), .val (.int (5 : Int32)), .val (.int (0 : Int32)), .unset] [(.ref b143)])
  refine go (fun _ => XS.iloadN X143.here hx rfl (hb hby d_prog_10_method_4_15) rfl) ?_
  show Ends p e below s _ _ _ T143 (mkF m 16 #[.val (.ref a), .val (.ref b143), .val (.int (5 : Int32)), .val (.int (0 : Int32)), .unset] [(.int (0 : Int32)), (.ref b143)])
  obtain ⟨c150, A150, -, S150, M150, H150, -⟩ := id V143
  have B150 := inb_of S150 (j := (0 : Int32)) (by decide)
  refine go (fun _ => X143.aaload hx (j := (0 : Int32)) (v := (.ref a_DeleteAction_NO_ACTION)) (by rw [e143]; exact A150.1) (State.isArrayOf_alike hZ.alike A150.2.1) rfl A150.2.2 B150 (H150.at B150 rfl) (g := (mkF m 16 #[.val (.ref a), .val (.ref b143), .val (.int (5 : Int32)), .val (.int (0 : Int32)), .unset] [(.int (0 : Int32)), (.ref b143)])) rfl rfl (hb hby d_prog_10_method_4_16) _) ?_
  show Ends p e below s _ _ _ T143 (mkF m 17 #[.val (.ref a), .val (.ref b143), .val (.int (5 : Int32)), .val (.int (0 : Int32)), .unset] [(.ref a_DeleteAction_NO_ACTION)])
  refine go (fun _ => XS.astore X143.here hx rfl (hb hby d_prog_10_method_4_17) rfl rfl (l' := #[.val (.ref a), .val (.ref b143), .val (.int (5 : Int32)), .val (.int (0 : Int32)), .val (.ref a_DeleteAction_NO_ACTION)]) rfl) ?_
  show Ends p e below s _ _ _ T143 (mkF m 19 #[.val (.ref a), .val (.ref b143), .val (.int (5 : Int32)), .val (.int (0 : Int32)), .val (.ref a_DeleteAction_NO_ACTION)] [])
  refine go (fun _ => XS.aload X143.here hx rfl (hb hby d_prog_10_method_4_19) rfl rfl) ?_
  show Ends p e below s _ _ _ T143 (mkF m 21 #[.val (.ref a), .val (.ref b143), .val (.int (5 : Int32)), .val (.int (0 : Int32)), .val (.ref a_DeleteAction_NO_ACTION)] [(.ref a_DeleteAction_NO_ACTION)])
  obtain ⟨T151, X151, e151, s151⟩ := getF X143 hx hZ hown (host := "") (Or.inl (hw _ (List.mem_of_getElem? (i := 59) rfl))) Via.refl e143 (Fld.ext O148 ft_35) (g := (mkF m 21 #[.val (.ref a), .val (.ref b143), .val (.int (5 : Int32)), .val (.int (0 : Int32)), .val (.ref a_DeleteAction_NO_ACTION)] [(.ref a_DeleteAction_NO_ACTION)])) rfl rfl (hb hby d_prog_10_method_4_21)
  refine go s151 ?_
  show Ends p e below s _ _ _ T151 (mkF m 24 #[.val (.ref a), .val (.ref b143), .val (.int (5 : Int32)), .val (.int (0 : Int32)), .val (.ref a_DeleteAction_NO_ACTION)] [(.ref a_DeleteAction_NO_ACTION_catalogCode)])
  refine go (fun _ => XS.aloadN X151.here hx rfl (hb hby d_prog_10_method_4_24) rfl rfl) ?_
  show Ends p e below s _ _ _ T151 (mkF m 25 #[.val (.ref a), .val (.ref b143), .val (.int (5 : Int32)), .val (.int (0 : Int32)), .val (.ref a_DeleteAction_NO_ACTION)] [(.ref a), (.ref a_DeleteAction_NO_ACTION_catalogCode)])
  have F152 := (Exa.keep Ea K143)
  have F153 := (Fld.keep Fv K143 nin0)
  have F154 := (Fld.keep Fc K143 nin0)
  have F155 := (Arv.keep Vb K143 nin0)
  refine cVirt X151 hx hZ hown (by rw [hml]; rfl) e151 (hw _ (List.mem_of_getElem? (i := 61) rfl)) (hw _ (List.mem_of_getElem? (i := 62) rfl)) (hw _ (List.mem_of_getElem? (i := 64) rfl)) (hw _ (List.mem_of_getElem? (i := 63) rfl)) (hw _ (List.mem_of_getElem? (i := 10) rfl)) (hw _ (List.mem_of_getElem? (i := 65) rfl)) (notFace_of_selects (args := #[]) (mvT hZ (hw _ (List.mem_of_getElem? (i := 64) rfl)))) a_DeleteAction_NO_ACTION_catalogCode (Exa.ext O148 ex_36) [(.ref a)] [] rfl (rm_streq_1_1 hw a_DeleteAction_NO_ACTION_catalogCode a a_DeleteAction_NO_ACTION_catalogCode_value b k_a_DeleteAction_NO_ACTION_catalogCode_value kb (97 : Int32) (100 : Int32) _ O148 (fun q => absurd (Nat.lt_of_lt_of_le (ex_36).lt f0) (by rw [q]; exact Nat.lt_irrefl _)) F152 cz SCS hcz (Fld.ext O148 ft_40) (Fld.ext O148 ft_38) F153 F154 (Arv.ext av_106 O148) F155) (hb hby d_prog_10_method_4_25) rfl (lenOf pd_10 rfl) (by decide) (by decide) (Nat.le_of_ble_eq_true rfl) (by decide) (by decide) ?_
  rintro v156 T156 h156 L156 X156 e156 ⟨rfl, N156, rfl⟩
  have N156a := Fr.app N143a N156
  show Ends p e below s _ _ _ T156 (mkF m 28 #[.val (.ref a), .val (.ref b143), .val (.int (5 : Int32)), .val (.int (0 : Int32)), .val (.ref a_DeleteAction_NO_ACTION)] [(.int (if (97 : Int32) = (100 : Int32) then (1 : Int32) else (0 : Int32)))])
  show Ends p e below s _ _ _ T156 (mkF m 28 #[.val (.ref a), .val (.ref b143), .val (.int (5 : Int32)), .val (.int (0 : Int32)), .val (.ref a_DeleteAction_NO_ACTION)] [(.int (0 : Int32))])
  refine go (fun _ => XS.ifYes X156.here hx rfl (pc0 := 28) (pc' := 34) rfl (hb hby d_prog_10_method_4_28) rfl (XT.i0_eq_t ((by decide) : (0 : Int32) = (0 : Int32))) (by decide) (by decide)) ?_
  show Ends p e below s _ _ _ T156 (mkF m 34 #[.val (.ref a), .val (.ref b143), .val (.int (5 : Int32)), .val (.int (0 : Int32)), .val (.ref a_DeleteAction_NO_ACTION)] [])
  refine go (fun _ => XT.iincV X156.here hx rfl (1 : Int32) (hb hby d_prog_10_method_4_34) (by decide) rfl (l' := #[.val (.ref a), .val (.ref b143), .val (.int (5 : Int32)), .val (.int (1 : Int32)), .val (.ref a_DeleteAction_NO_ACTION)]) rfl) ?_
  show Ends p e below s _ _ _ T156 (mkF m 37 #[.val (.ref a), .val (.ref b143), .val (.int (5 : Int32)), .val (.int (1 : Int32)), .val (.ref a_DeleteAction_NO_ACTION)] [])
  refine go (fun _ => XS.goto X156.here hx rfl (pc0 := 37) (pc' := 9) rfl (hb hby d_prog_10_method_4_37) (by decide) (by decide)) ?_
  show Ends p e below s _ _ _ T156 (mkF m 9 #[.val (.ref a), .val (.ref b143), .val (.int (5 : Int32)), .val (.int (1 : Int32)), .val (.ref a_DeleteAction_NO_ACTION)] [])
  refine go (fun _ => XS.iloadN X156.here hx rfl (hb hby d_prog_10_method_4_9) rfl) ?_
  show Ends p e below s _ _ _ T156 (mkF m 10 #[.val (.ref a), .val (.ref b143), .val (.int (5 : Int32)), .val (.int (1 : Int32)), .val (.ref a_DeleteAction_NO_ACTION)] [(.int (1 : Int32))])
  refine go (fun _ => XS.iloadN X156.here hx rfl (hb hby d_prog_10_method_4_10) rfl) ?_
  show Ends p e below s _ _ _ T156 (mkF m 11 #[.val (.ref a), .val (.ref b143), .val (.int (5 : Int32)), .val (.int (1 : Int32)), .val (.ref a_DeleteAction_NO_ACTION)] [(.int (5 : Int32)), (.int (1 : Int32))])
  refine go (fun _ => XS.icmpNo X156.here hx rfl (hb hby d_prog_10_method_4_11) rfl (XT.ii_ge_f ((by decide) : (1 : Int32) < (5 : Int32)))) ?_
  show Ends p e below s _ _ _ T156 (mkF m 14 #[.val (.ref a), .val (.ref b143), .val (.int (5 : Int32)), .val (.int (1 : Int32)), .val (.ref a_DeleteAction_NO_ACTION)] [])
  refine go (fun _ => XS.aloadN X156.here hx rfl (hb hby d_prog_10_method_4_14) rfl rfl) ?_
  show Ends p e below s _ _ _ T156 (mkF m 15 #[.val (.ref a), .val (.ref b143), .val (.int (5 : Int32)), .val (.int (1 : Int32)), .val (.ref a_DeleteAction_NO_ACTION)] [(.ref b143)])
  refine go (fun _ => XS.iloadN X156.here hx rfl (hb hby d_prog_10_method_4_15) rfl) ?_
  show Ends p e below s _ _ _ T156 (mkF m 16 #[.val (.ref a), .val (.ref b143), .val (.int (5 : Int32)), .val (.int (1 : Int32)), .val (.ref a_DeleteAction_NO_ACTION)] [(.int (1 : Int32)), (.ref b143)])
  obtain ⟨c157, A157, -, S157, M157, H157, -⟩ := id V143
  have B157 := inb_of S157 (j := (1 : Int32)) (by decide)
  refine go (fun _ => X156.aaload hx (j := (1 : Int32)) (v := (.ref a_DeleteAction_RESTRICT)) (by rw [e156]; exact A157.1) (State.isArrayOf_alike hZ.alike A157.2.1) rfl A157.2.2 B157 (H157.at B157 rfl) (g := (mkF m 16 #[.val (.ref a), .val (.ref b143), .val (.int (5 : Int32)), .val (.int (1 : Int32)), .val (.ref a_DeleteAction_NO_ACTION)] [(.int (1 : Int32)), (.ref b143)])) rfl rfl (hb hby d_prog_10_method_4_16) _) ?_
  show Ends p e below s _ _ _ T156 (mkF m 17 #[.val (.ref a), .val (.ref b143), .val (.int (5 : Int32)), .val (.int (1 : Int32)), .val (.ref a_DeleteAction_NO_ACTION)] [(.ref a_DeleteAction_RESTRICT)])
  refine go (fun _ => XS.astore X156.here hx rfl (hb hby d_prog_10_method_4_17) rfl rfl (l' := #[.val (.ref a), .val (.ref b143), .val (.int (5 : Int32)), .val (.int (1 : Int32)), .val (.ref a_DeleteAction_RESTRICT)]) rfl) ?_
  show Ends p e below s _ _ _ T156 (mkF m 19 #[.val (.ref a), .val (.ref b143), .val (.int (5 : Int32)), .val (.int (1 : Int32)), .val (.ref a_DeleteAction_RESTRICT)] [])
  refine go (fun _ => XS.aload X156.here hx rfl (hb hby d_prog_10_method_4_19) rfl rfl) ?_
  show Ends p e below s _ _ _ T156 (mkF m 21 #[.val (.ref a), .val (.ref b143), .val (.int (5 : Int32)), .val (.int (1 : Int32)), .val (.ref a_DeleteAction_RESTRICT)] [(.ref a_DeleteAction_RESTRICT)])
  obtain ⟨T158, X158, e158, s158⟩ := getF X156 hx hZ hown (host := "") (Or.inl (hw _ (List.mem_of_getElem? (i := 59) rfl))) Via.refl e156 (Fld.ext O148 ft_51) (g := (mkF m 21 #[.val (.ref a), .val (.ref b143), .val (.int (5 : Int32)), .val (.int (1 : Int32)), .val (.ref a_DeleteAction_RESTRICT)] [(.ref a_DeleteAction_RESTRICT)])) rfl rfl (hb hby d_prog_10_method_4_21)
  refine go s158 ?_
  show Ends p e below s _ _ _ T158 (mkF m 24 #[.val (.ref a), .val (.ref b143), .val (.int (5 : Int32)), .val (.int (1 : Int32)), .val (.ref a_DeleteAction_RESTRICT)] [(.ref a_DeleteAction_RESTRICT_catalogCode)])
  refine go (fun _ => XS.aloadN X158.here hx rfl (hb hby d_prog_10_method_4_24) rfl rfl) ?_
  show Ends p e below s _ _ _ T158 (mkF m 25 #[.val (.ref a), .val (.ref b143), .val (.int (5 : Int32)), .val (.int (1 : Int32)), .val (.ref a_DeleteAction_RESTRICT)] [(.ref a), (.ref a_DeleteAction_RESTRICT_catalogCode)])
  refine cVirt X158 hx hZ hown (by rw [hml]; rfl) e158 (hw _ (List.mem_of_getElem? (i := 61) rfl)) (hw _ (List.mem_of_getElem? (i := 62) rfl)) (hw _ (List.mem_of_getElem? (i := 64) rfl)) (hw _ (List.mem_of_getElem? (i := 63) rfl)) (hw _ (List.mem_of_getElem? (i := 10) rfl)) (hw _ (List.mem_of_getElem? (i := 65) rfl)) (notFace_of_selects (args := #[]) (mvT hZ (hw _ (List.mem_of_getElem? (i := 64) rfl)))) a_DeleteAction_RESTRICT_catalogCode (Exa.ext O148 ex_52) [(.ref a)] [] rfl (rm_streq_1_1 hw a_DeleteAction_RESTRICT_catalogCode a a_DeleteAction_RESTRICT_catalogCode_value b k_a_DeleteAction_RESTRICT_catalogCode_value kb (114 : Int32) (100 : Int32) _ O148 (fun q => absurd (Nat.lt_of_lt_of_le (ex_52).lt f0) (by rw [q]; exact Nat.lt_irrefl _)) F152 cz SCS hcz (Fld.ext O148 ft_56) (Fld.ext O148 ft_54) F153 F154 (Arv.ext av_107 O148) F155) (hb hby d_prog_10_method_4_25) rfl (lenOf pd_10 rfl) (by decide) (by decide) (Nat.le_of_ble_eq_true rfl) (by decide) (by decide) ?_
  rintro v159 T159 h159 L159 X159 e159 ⟨rfl, N159, rfl⟩
  have N159a := Fr.app N156a N159
  show Ends p e below s _ _ _ T159 (mkF m 28 #[.val (.ref a), .val (.ref b143), .val (.int (5 : Int32)), .val (.int (1 : Int32)), .val (.ref a_DeleteAction_RESTRICT)] [(.int (if (114 : Int32) = (100 : Int32) then (1 : Int32) else (0 : Int32)))])
  show Ends p e below s _ _ _ T159 (mkF m 28 #[.val (.ref a), .val (.ref b143), .val (.int (5 : Int32)), .val (.int (1 : Int32)), .val (.ref a_DeleteAction_RESTRICT)] [(.int (0 : Int32))])
  refine go (fun _ => XS.ifYes X159.here hx rfl (pc0 := 28) (pc' := 34) rfl (hb hby d_prog_10_method_4_28) rfl (XT.i0_eq_t ((by decide) : (0 : Int32) = (0 : Int32))) (by decide) (by decide)) ?_
  show Ends p e below s _ _ _ T159 (mkF m 34 #[.val (.ref a), .val (.ref b143), .val (.int (5 : Int32)), .val (.int (1 : Int32)), .val (.ref a_DeleteAction_RESTRICT)] [])
  refine go (fun _ => XT.iincV X159.here hx rfl (1 : Int32) (hb hby d_prog_10_method_4_34) (by decide) rfl (l' := #[.val (.ref a), .val (.ref b143), .val (.int (5 : Int32)), .val (.int (2 : Int32)), .val (.ref a_DeleteAction_RESTRICT)]) rfl) ?_
  show Ends p e below s _ _ _ T159 (mkF m 37 #[.val (.ref a), .val (.ref b143), .val (.int (5 : Int32)), .val (.int (2 : Int32)), .val (.ref a_DeleteAction_RESTRICT)] [])
  refine go (fun _ => XS.goto X159.here hx rfl (pc0 := 37) (pc' := 9) rfl (hb hby d_prog_10_method_4_37) (by decide) (by decide)) ?_
  show Ends p e below s _ _ _ T159 (mkF m 9 #[.val (.ref a), .val (.ref b143), .val (.int (5 : Int32)), .val (.int (2 : Int32)), .val (.ref a_DeleteAction_RESTRICT)] [])
  refine go (fun _ => XS.iloadN X159.here hx rfl (hb hby d_prog_10_method_4_9) rfl) ?_
  show Ends p e below s _ _ _ T159 (mkF m 10 #[.val (.ref a), .val (.ref b143), .val (.int (5 : Int32)), .val (.int (2 : Int32)), .val (.ref a_DeleteAction_RESTRICT)] [(.int (2 : Int32))])
  refine go (fun _ => XS.iloadN X159.here hx rfl (hb hby d_prog_10_method_4_10) rfl) ?_
  show Ends p e below s _ _ _ T159 (mkF m 11 #[.val (.ref a), .val (.ref b143), .val (.int (5 : Int32)), .val (.int (2 : Int32)), .val (.ref a_DeleteAction_RESTRICT)] [(.int (5 : Int32)), (.int (2 : Int32))])
  refine go (fun _ => XS.icmpNo X159.here hx rfl (hb hby d_prog_10_method_4_11) rfl (XT.ii_ge_f ((by decide) : (2 : Int32) < (5 : Int32)))) ?_
  show Ends p e below s _ _ _ T159 (mkF m 14 #[.val (.ref a), .val (.ref b143), .val (.int (5 : Int32)), .val (.int (2 : Int32)), .val (.ref a_DeleteAction_RESTRICT)] [])
  refine go (fun _ => XS.aloadN X159.here hx rfl (hb hby d_prog_10_method_4_14) rfl rfl) ?_
  show Ends p e below s _ _ _ T159 (mkF m 15 #[.val (.ref a), .val (.ref b143), .val (.int (5 : Int32)), .val (.int (2 : Int32)), .val (.ref a_DeleteAction_RESTRICT)] [(.ref b143)])
  refine go (fun _ => XS.iloadN X159.here hx rfl (hb hby d_prog_10_method_4_15) rfl) ?_
  show Ends p e below s _ _ _ T159 (mkF m 16 #[.val (.ref a), .val (.ref b143), .val (.int (5 : Int32)), .val (.int (2 : Int32)), .val (.ref a_DeleteAction_RESTRICT)] [(.int (2 : Int32)), (.ref b143)])
  obtain ⟨c160, A160, -, S160, M160, H160, -⟩ := id V143
  have B160 := inb_of S160 (j := (2 : Int32)) (by decide)
  refine go (fun _ => X159.aaload hx (j := (2 : Int32)) (v := (.ref a_DeleteAction_CASCADE)) (by rw [e159]; exact A160.1) (State.isArrayOf_alike hZ.alike A160.2.1) rfl A160.2.2 B160 (H160.at B160 rfl) (g := (mkF m 16 #[.val (.ref a), .val (.ref b143), .val (.int (5 : Int32)), .val (.int (2 : Int32)), .val (.ref a_DeleteAction_RESTRICT)] [(.int (2 : Int32)), (.ref b143)])) rfl rfl (hb hby d_prog_10_method_4_16) _) ?_
  show Ends p e below s _ _ _ T159 (mkF m 17 #[.val (.ref a), .val (.ref b143), .val (.int (5 : Int32)), .val (.int (2 : Int32)), .val (.ref a_DeleteAction_RESTRICT)] [(.ref a_DeleteAction_CASCADE)])
  refine go (fun _ => XS.astore X159.here hx rfl (hb hby d_prog_10_method_4_17) rfl rfl (l' := #[.val (.ref a), .val (.ref b143), .val (.int (5 : Int32)), .val (.int (2 : Int32)), .val (.ref a_DeleteAction_CASCADE)]) rfl) ?_
  show Ends p e below s _ _ _ T159 (mkF m 19 #[.val (.ref a), .val (.ref b143), .val (.int (5 : Int32)), .val (.int (2 : Int32)), .val (.ref a_DeleteAction_CASCADE)] [])
  refine go (fun _ => XS.aload X159.here hx rfl (hb hby d_prog_10_method_4_19) rfl rfl) ?_
  show Ends p e below s _ _ _ T159 (mkF m 21 #[.val (.ref a), .val (.ref b143), .val (.int (5 : Int32)), .val (.int (2 : Int32)), .val (.ref a_DeleteAction_CASCADE)] [(.ref a_DeleteAction_CASCADE)])
  obtain ⟨T161, X161, e161, s161⟩ := getF X159 hx hZ hown (host := "") (Or.inl (hw _ (List.mem_of_getElem? (i := 59) rfl))) Via.refl e159 (Fld.ext O148 ft_62) (g := (mkF m 21 #[.val (.ref a), .val (.ref b143), .val (.int (5 : Int32)), .val (.int (2 : Int32)), .val (.ref a_DeleteAction_CASCADE)] [(.ref a_DeleteAction_CASCADE)])) rfl rfl (hb hby d_prog_10_method_4_21)
  refine go s161 ?_
  show Ends p e below s _ _ _ T161 (mkF m 24 #[.val (.ref a), .val (.ref b143), .val (.int (5 : Int32)), .val (.int (2 : Int32)), .val (.ref a_DeleteAction_CASCADE)] [(.ref a_DeleteAction_CASCADE_catalogCode)])
  refine go (fun _ => XS.aloadN X161.here hx rfl (hb hby d_prog_10_method_4_24) rfl rfl) ?_
  show Ends p e below s _ _ _ T161 (mkF m 25 #[.val (.ref a), .val (.ref b143), .val (.int (5 : Int32)), .val (.int (2 : Int32)), .val (.ref a_DeleteAction_CASCADE)] [(.ref a), (.ref a_DeleteAction_CASCADE_catalogCode)])
  refine cVirt X161 hx hZ hown (by rw [hml]; rfl) e161 (hw _ (List.mem_of_getElem? (i := 61) rfl)) (hw _ (List.mem_of_getElem? (i := 62) rfl)) (hw _ (List.mem_of_getElem? (i := 64) rfl)) (hw _ (List.mem_of_getElem? (i := 63) rfl)) (hw _ (List.mem_of_getElem? (i := 10) rfl)) (hw _ (List.mem_of_getElem? (i := 65) rfl)) (notFace_of_selects (args := #[]) (mvT hZ (hw _ (List.mem_of_getElem? (i := 64) rfl)))) a_DeleteAction_CASCADE_catalogCode (Exa.ext O148 ex_63) [(.ref a)] [] rfl (rm_streq_1_1 hw a_DeleteAction_CASCADE_catalogCode a a_DeleteAction_CASCADE_catalogCode_value b k_a_DeleteAction_CASCADE_catalogCode_value kb (99 : Int32) (100 : Int32) _ O148 (fun q => absurd (Nat.lt_of_lt_of_le (ex_63).lt f0) (by rw [q]; exact Nat.lt_irrefl _)) F152 cz SCS hcz (Fld.ext O148 ft_67) (Fld.ext O148 ft_65) F153 F154 (Arv.ext av_108 O148) F155) (hb hby d_prog_10_method_4_25) rfl (lenOf pd_10 rfl) (by decide) (by decide) (Nat.le_of_ble_eq_true rfl) (by decide) (by decide) ?_
  rintro v162 T162 h162 L162 X162 e162 ⟨rfl, N162, rfl⟩
  have N162a := Fr.app N159a N162
  show Ends p e below s _ _ _ T162 (mkF m 28 #[.val (.ref a), .val (.ref b143), .val (.int (5 : Int32)), .val (.int (2 : Int32)), .val (.ref a_DeleteAction_CASCADE)] [(.int (if (99 : Int32) = (100 : Int32) then (1 : Int32) else (0 : Int32)))])
  show Ends p e below s _ _ _ T162 (mkF m 28 #[.val (.ref a), .val (.ref b143), .val (.int (5 : Int32)), .val (.int (2 : Int32)), .val (.ref a_DeleteAction_CASCADE)] [(.int (0 : Int32))])
  refine go (fun _ => XS.ifYes X162.here hx rfl (pc0 := 28) (pc' := 34) rfl (hb hby d_prog_10_method_4_28) rfl (XT.i0_eq_t ((by decide) : (0 : Int32) = (0 : Int32))) (by decide) (by decide)) ?_
  show Ends p e below s _ _ _ T162 (mkF m 34 #[.val (.ref a), .val (.ref b143), .val (.int (5 : Int32)), .val (.int (2 : Int32)), .val (.ref a_DeleteAction_CASCADE)] [])
  refine go (fun _ => XT.iincV X162.here hx rfl (1 : Int32) (hb hby d_prog_10_method_4_34) (by decide) rfl (l' := #[.val (.ref a), .val (.ref b143), .val (.int (5 : Int32)), .val (.int (3 : Int32)), .val (.ref a_DeleteAction_CASCADE)]) rfl) ?_
  show Ends p e below s _ _ _ T162 (mkF m 37 #[.val (.ref a), .val (.ref b143), .val (.int (5 : Int32)), .val (.int (3 : Int32)), .val (.ref a_DeleteAction_CASCADE)] [])
  refine go (fun _ => XS.goto X162.here hx rfl (pc0 := 37) (pc' := 9) rfl (hb hby d_prog_10_method_4_37) (by decide) (by decide)) ?_
  show Ends p e below s _ _ _ T162 (mkF m 9 #[.val (.ref a), .val (.ref b143), .val (.int (5 : Int32)), .val (.int (3 : Int32)), .val (.ref a_DeleteAction_CASCADE)] [])
  refine go (fun _ => XS.iloadN X162.here hx rfl (hb hby d_prog_10_method_4_9) rfl) ?_
  show Ends p e below s _ _ _ T162 (mkF m 10 #[.val (.ref a), .val (.ref b143), .val (.int (5 : Int32)), .val (.int (3 : Int32)), .val (.ref a_DeleteAction_CASCADE)] [(.int (3 : Int32))])
  refine go (fun _ => XS.iloadN X162.here hx rfl (hb hby d_prog_10_method_4_10) rfl) ?_
  show Ends p e below s _ _ _ T162 (mkF m 11 #[.val (.ref a), .val (.ref b143), .val (.int (5 : Int32)), .val (.int (3 : Int32)), .val (.ref a_DeleteAction_CASCADE)] [(.int (5 : Int32)), (.int (3 : Int32))])
  refine go (fun _ => XS.icmpNo X162.here hx rfl (hb hby d_prog_10_method_4_11) rfl (XT.ii_ge_f ((by decide) : (3 : Int32) < (5 : Int32)))) ?_
  show Ends p e below s _ _ _ T162 (mkF m 14 #[.val (.ref a), .val (.ref b143), .val (.int (5 : Int32)), .val (.int (3 : Int32)), .val (.ref a_DeleteAction_CASCADE)] [])
  refine go (fun _ => XS.aloadN X162.here hx rfl (hb hby d_prog_10_method_4_14) rfl rfl) ?_
  show Ends p e below s _ _ _ T162 (mkF m 15 #[.val (.ref a), .val (.ref b143), .val (.int (5 : Int32)), .val (.int (3 : Int32)), .val (.ref a_DeleteAction_CASCADE)] [(.ref b143)])
  refine go (fun _ => XS.iloadN X162.here hx rfl (hb hby d_prog_10_method_4_15) rfl) ?_
  show Ends p e below s _ _ _ T162 (mkF m 16 #[.val (.ref a), .val (.ref b143), .val (.int (5 : Int32)), .val (.int (3 : Int32)), .val (.ref a_DeleteAction_CASCADE)] [(.int (3 : Int32)), (.ref b143)])
  obtain ⟨c163, A163, -, S163, M163, H163, -⟩ := id V143
  have B163 := inb_of S163 (j := (3 : Int32)) (by decide)
  refine go (fun _ => X162.aaload hx (j := (3 : Int32)) (v := (.ref a_DeleteAction_SET_NULL)) (by rw [e162]; exact A163.1) (State.isArrayOf_alike hZ.alike A163.2.1) rfl A163.2.2 B163 (H163.at B163 rfl) (g := (mkF m 16 #[.val (.ref a), .val (.ref b143), .val (.int (5 : Int32)), .val (.int (3 : Int32)), .val (.ref a_DeleteAction_CASCADE)] [(.int (3 : Int32)), (.ref b143)])) rfl rfl (hb hby d_prog_10_method_4_16) _) ?_
  show Ends p e below s _ _ _ T162 (mkF m 17 #[.val (.ref a), .val (.ref b143), .val (.int (5 : Int32)), .val (.int (3 : Int32)), .val (.ref a_DeleteAction_CASCADE)] [(.ref a_DeleteAction_SET_NULL)])
  refine go (fun _ => XS.astore X162.here hx rfl (hb hby d_prog_10_method_4_17) rfl rfl (l' := #[.val (.ref a), .val (.ref b143), .val (.int (5 : Int32)), .val (.int (3 : Int32)), .val (.ref a_DeleteAction_SET_NULL)]) rfl) ?_
  show Ends p e below s _ _ _ T162 (mkF m 19 #[.val (.ref a), .val (.ref b143), .val (.int (5 : Int32)), .val (.int (3 : Int32)), .val (.ref a_DeleteAction_SET_NULL)] [])
  refine go (fun _ => XS.aload X162.here hx rfl (hb hby d_prog_10_method_4_19) rfl rfl) ?_
  show Ends p e below s _ _ _ T162 (mkF m 21 #[.val (.ref a), .val (.ref b143), .val (.int (5 : Int32)), .val (.int (3 : Int32)), .val (.ref a_DeleteAction_SET_NULL)] [(.ref a_DeleteAction_SET_NULL)])
  obtain ⟨T164, X164, e164, s164⟩ := getF X162 hx hZ hown (host := "") (Or.inl (hw _ (List.mem_of_getElem? (i := 59) rfl))) Via.refl e162 (Fld.ext O148 ft_73) (g := (mkF m 21 #[.val (.ref a), .val (.ref b143), .val (.int (5 : Int32)), .val (.int (3 : Int32)), .val (.ref a_DeleteAction_SET_NULL)] [(.ref a_DeleteAction_SET_NULL)])) rfl rfl (hb hby d_prog_10_method_4_21)
  refine go s164 ?_
  show Ends p e below s _ _ _ T164 (mkF m 24 #[.val (.ref a), .val (.ref b143), .val (.int (5 : Int32)), .val (.int (3 : Int32)), .val (.ref a_DeleteAction_SET_NULL)] [(.ref a_DeleteAction_SET_NULL_catalogCode)])
  refine go (fun _ => XS.aloadN X164.here hx rfl (hb hby d_prog_10_method_4_24) rfl rfl) ?_
  show Ends p e below s _ _ _ T164 (mkF m 25 #[.val (.ref a), .val (.ref b143), .val (.int (5 : Int32)), .val (.int (3 : Int32)), .val (.ref a_DeleteAction_SET_NULL)] [(.ref a), (.ref a_DeleteAction_SET_NULL_catalogCode)])
  refine cVirt X164 hx hZ hown (by rw [hml]; rfl) e164 (hw _ (List.mem_of_getElem? (i := 61) rfl)) (hw _ (List.mem_of_getElem? (i := 62) rfl)) (hw _ (List.mem_of_getElem? (i := 64) rfl)) (hw _ (List.mem_of_getElem? (i := 63) rfl)) (hw _ (List.mem_of_getElem? (i := 10) rfl)) (hw _ (List.mem_of_getElem? (i := 65) rfl)) (notFace_of_selects (args := #[]) (mvT hZ (hw _ (List.mem_of_getElem? (i := 64) rfl)))) a_DeleteAction_SET_NULL_catalogCode (Exa.ext O148 ex_74) [(.ref a)] [] rfl (rm_streq_1_1 hw a_DeleteAction_SET_NULL_catalogCode a a_DeleteAction_SET_NULL_catalogCode_value b k_a_DeleteAction_SET_NULL_catalogCode_value kb (110 : Int32) (100 : Int32) _ O148 (fun q => absurd (Nat.lt_of_lt_of_le (ex_74).lt f0) (by rw [q]; exact Nat.lt_irrefl _)) F152 cz SCS hcz (Fld.ext O148 ft_78) (Fld.ext O148 ft_76) F153 F154 (Arv.ext av_109 O148) F155) (hb hby d_prog_10_method_4_25) rfl (lenOf pd_10 rfl) (by decide) (by decide) (Nat.le_of_ble_eq_true rfl) (by decide) (by decide) ?_
  rintro v165 T165 h165 L165 X165 e165 ⟨rfl, N165, rfl⟩
  have N165a := Fr.app N162a N165
  show Ends p e below s _ _ _ T165 (mkF m 28 #[.val (.ref a), .val (.ref b143), .val (.int (5 : Int32)), .val (.int (3 : Int32)), .val (.ref a_DeleteAction_SET_NULL)] [(.int (if (110 : Int32) = (100 : Int32) then (1 : Int32) else (0 : Int32)))])
  show Ends p e below s _ _ _ T165 (mkF m 28 #[.val (.ref a), .val (.ref b143), .val (.int (5 : Int32)), .val (.int (3 : Int32)), .val (.ref a_DeleteAction_SET_NULL)] [(.int (0 : Int32))])
  refine go (fun _ => XS.ifYes X165.here hx rfl (pc0 := 28) (pc' := 34) rfl (hb hby d_prog_10_method_4_28) rfl (XT.i0_eq_t ((by decide) : (0 : Int32) = (0 : Int32))) (by decide) (by decide)) ?_
  show Ends p e below s _ _ _ T165 (mkF m 34 #[.val (.ref a), .val (.ref b143), .val (.int (5 : Int32)), .val (.int (3 : Int32)), .val (.ref a_DeleteAction_SET_NULL)] [])
  refine go (fun _ => XT.iincV X165.here hx rfl (1 : Int32) (hb hby d_prog_10_method_4_34) (by decide) rfl (l' := #[.val (.ref a), .val (.ref b143), .val (.int (5 : Int32)), .val (.int (4 : Int32)), .val (.ref a_DeleteAction_SET_NULL)]) rfl) ?_
  show Ends p e below s _ _ _ T165 (mkF m 37 #[.val (.ref a), .val (.ref b143), .val (.int (5 : Int32)), .val (.int (4 : Int32)), .val (.ref a_DeleteAction_SET_NULL)] [])
  refine go (fun _ => XS.goto X165.here hx rfl (pc0 := 37) (pc' := 9) rfl (hb hby d_prog_10_method_4_37) (by decide) (by decide)) ?_
  show Ends p e below s _ _ _ T165 (mkF m 9 #[.val (.ref a), .val (.ref b143), .val (.int (5 : Int32)), .val (.int (4 : Int32)), .val (.ref a_DeleteAction_SET_NULL)] [])
  refine go (fun _ => XS.iloadN X165.here hx rfl (hb hby d_prog_10_method_4_9) rfl) ?_
  show Ends p e below s _ _ _ T165 (mkF m 10 #[.val (.ref a), .val (.ref b143), .val (.int (5 : Int32)), .val (.int (4 : Int32)), .val (.ref a_DeleteAction_SET_NULL)] [(.int (4 : Int32))])
  refine go (fun _ => XS.iloadN X165.here hx rfl (hb hby d_prog_10_method_4_10) rfl) ?_
  show Ends p e below s _ _ _ T165 (mkF m 11 #[.val (.ref a), .val (.ref b143), .val (.int (5 : Int32)), .val (.int (4 : Int32)), .val (.ref a_DeleteAction_SET_NULL)] [(.int (5 : Int32)), (.int (4 : Int32))])
  refine go (fun _ => XS.icmpNo X165.here hx rfl (hb hby d_prog_10_method_4_11) rfl (XT.ii_ge_f ((by decide) : (4 : Int32) < (5 : Int32)))) ?_
  show Ends p e below s _ _ _ T165 (mkF m 14 #[.val (.ref a), .val (.ref b143), .val (.int (5 : Int32)), .val (.int (4 : Int32)), .val (.ref a_DeleteAction_SET_NULL)] [])
  refine go (fun _ => XS.aloadN X165.here hx rfl (hb hby d_prog_10_method_4_14) rfl rfl) ?_
  show Ends p e below s _ _ _ T165 (mkF m 15 #[.val (.ref a), .val (.ref b143), .val (.int (5 : Int32)), .val (.int (4 : Int32)), .val (.ref a_DeleteAction_SET_NULL)] [(.ref b143)])
  refine go (fun _ => XS.iloadN X165.here hx rfl (hb hby d_prog_10_method_4_15) rfl) ?_
  show Ends p e below s _ _ _ T165 (mkF m 16 #[.val (.ref a), .val (.ref b143), .val (.int (5 : Int32)), .val (.int (4 : Int32)), .val (.ref a_DeleteAction_SET_NULL)] [(.int (4 : Int32)), (.ref b143)])
  obtain ⟨c166, A166, -, S166, M166, H166, -⟩ := id V143
  have B166 := inb_of S166 (j := (4 : Int32)) (by decide)
  refine go (fun _ => X165.aaload hx (j := (4 : Int32)) (v := (.ref a_DeleteAction_SET_DEFAULT)) (by rw [e165]; exact A166.1) (State.isArrayOf_alike hZ.alike A166.2.1) rfl A166.2.2 B166 (H166.at B166 rfl) (g := (mkF m 16 #[.val (.ref a), .val (.ref b143), .val (.int (5 : Int32)), .val (.int (4 : Int32)), .val (.ref a_DeleteAction_SET_NULL)] [(.int (4 : Int32)), (.ref b143)])) rfl rfl (hb hby d_prog_10_method_4_16) _) ?_
  show Ends p e below s _ _ _ T165 (mkF m 17 #[.val (.ref a), .val (.ref b143), .val (.int (5 : Int32)), .val (.int (4 : Int32)), .val (.ref a_DeleteAction_SET_NULL)] [(.ref a_DeleteAction_SET_DEFAULT)])
  refine go (fun _ => XS.astore X165.here hx rfl (hb hby d_prog_10_method_4_17) rfl rfl (l' := #[.val (.ref a), .val (.ref b143), .val (.int (5 : Int32)), .val (.int (4 : Int32)), .val (.ref a_DeleteAction_SET_DEFAULT)]) rfl) ?_
  show Ends p e below s _ _ _ T165 (mkF m 19 #[.val (.ref a), .val (.ref b143), .val (.int (5 : Int32)), .val (.int (4 : Int32)), .val (.ref a_DeleteAction_SET_DEFAULT)] [])
  refine go (fun _ => XS.aload X165.here hx rfl (hb hby d_prog_10_method_4_19) rfl rfl) ?_
  show Ends p e below s _ _ _ T165 (mkF m 21 #[.val (.ref a), .val (.ref b143), .val (.int (5 : Int32)), .val (.int (4 : Int32)), .val (.ref a_DeleteAction_SET_DEFAULT)] [(.ref a_DeleteAction_SET_DEFAULT)])
  obtain ⟨T167, X167, e167, s167⟩ := getF X165 hx hZ hown (host := "") (Or.inl (hw _ (List.mem_of_getElem? (i := 59) rfl))) Via.refl e165 (Fld.ext O148 ft_88) (g := (mkF m 21 #[.val (.ref a), .val (.ref b143), .val (.int (5 : Int32)), .val (.int (4 : Int32)), .val (.ref a_DeleteAction_SET_DEFAULT)] [(.ref a_DeleteAction_SET_DEFAULT)])) rfl rfl (hb hby d_prog_10_method_4_21)
  refine go s167 ?_
  show Ends p e below s _ _ _ T167 (mkF m 24 #[.val (.ref a), .val (.ref b143), .val (.int (5 : Int32)), .val (.int (4 : Int32)), .val (.ref a_DeleteAction_SET_DEFAULT)] [(.ref a_DeleteAction_SET_DEFAULT_catalogCode)])
  refine go (fun _ => XS.aloadN X167.here hx rfl (hb hby d_prog_10_method_4_24) rfl rfl) ?_
  show Ends p e below s _ _ _ T167 (mkF m 25 #[.val (.ref a), .val (.ref b143), .val (.int (5 : Int32)), .val (.int (4 : Int32)), .val (.ref a_DeleteAction_SET_DEFAULT)] [(.ref a), (.ref a_DeleteAction_SET_DEFAULT_catalogCode)])
  refine cVirt X167 hx hZ hown (by rw [hml]; rfl) e167 (hw _ (List.mem_of_getElem? (i := 61) rfl)) (hw _ (List.mem_of_getElem? (i := 62) rfl)) (hw _ (List.mem_of_getElem? (i := 64) rfl)) (hw _ (List.mem_of_getElem? (i := 63) rfl)) (hw _ (List.mem_of_getElem? (i := 10) rfl)) (hw _ (List.mem_of_getElem? (i := 65) rfl)) (notFace_of_selects (args := #[]) (mvT hZ (hw _ (List.mem_of_getElem? (i := 64) rfl)))) a_DeleteAction_SET_DEFAULT_catalogCode (Exa.ext O148 ex_89) [(.ref a)] [] rfl (rm_streq_1_1 hw a_DeleteAction_SET_DEFAULT_catalogCode a a_DeleteAction_SET_DEFAULT_catalogCode_value b k_a_DeleteAction_SET_DEFAULT_catalogCode_value kb (100 : Int32) (100 : Int32) _ O148 (fun q => absurd (Nat.lt_of_lt_of_le (ex_89).lt f0) (by rw [q]; exact Nat.lt_irrefl _)) F152 cz SCS hcz (Fld.ext O148 ft_93) (Fld.ext O148 ft_91) F153 F154 (Arv.ext av_110 O148) F155) (hb hby d_prog_10_method_4_25) rfl (lenOf pd_10 rfl) (by decide) (by decide) (Nat.le_of_ble_eq_true rfl) (by decide) (by decide) ?_
  rintro v168 T168 h168 L168 X168 e168 ⟨rfl, N168, rfl⟩
  have N168a := Fr.app N165a N168
  show Ends p e below s _ _ _ T168 (mkF m 28 #[.val (.ref a), .val (.ref b143), .val (.int (5 : Int32)), .val (.int (4 : Int32)), .val (.ref a_DeleteAction_SET_DEFAULT)] [(.int (if (100 : Int32) = (100 : Int32) then (1 : Int32) else (0 : Int32)))])
  show Ends p e below s _ _ _ T168 (mkF m 28 #[.val (.ref a), .val (.ref b143), .val (.int (5 : Int32)), .val (.int (4 : Int32)), .val (.ref a_DeleteAction_SET_DEFAULT)] [(.int (1 : Int32))])
  refine go (fun _ => XS.ifNo X168.here hx rfl (hb hby d_prog_10_method_4_28) rfl (XT.i0_eq_f ((by decide) : ¬ ((1 : Int32) = (0 : Int32))))) ?_
  show Ends p e below s _ _ _ T168 (mkF m 31 #[.val (.ref a), .val (.ref b143), .val (.int (5 : Int32)), .val (.int (4 : Int32)), .val (.ref a_DeleteAction_SET_DEFAULT)] [])
  refine go (fun _ => XS.aload X168.here hx rfl (hb hby d_prog_10_method_4_31) rfl rfl) ?_
  show Ends p e below s _ _ _ T168 (mkF m 33 #[.val (.ref a), .val (.ref b143), .val (.int (5 : Int32)), .val (.int (4 : Int32)), .val (.ref a_DeleteAction_SET_DEFAULT)] [(.ref a_DeleteAction_SET_DEFAULT)])
  have K169 : Keep h0 h143 [] := (Keep.trans K147 K143 all0)
  exact endA X168 hx hlk hret rfl rfl (hb hby d_prog_10_method_4_33) e168 ⟨rfl, N168a, K169⟩ (by decide) (by decide)
set_option maxRecDepth 65536 in
set_option maxHeartbeats 40000000 in
theorem rm_rule {l : Launch} {Z : State} {a0 : Array Value} (hw : ∀ d ∈ tables_1, d.before a0 Z = true) (a r : Addr) (h0 : Heap) (F0 : Fld Z h0 a "com/example/scopa/scopa/schema/DeleteAction" "rule" "Lcom/example/scopa/scopa/schema/DeletionRule;" (.ref r)) :
    Con l (⟨"com/example/scopa/scopa/schema/DeleteAction", "rule", "()Lcom/example/scopa/scopa/schema/DeletionRule;"⟩ : MethodName) prog_10_method_5_code 1 (some (.object "com/example/scopa/scopa/schema/DeletionRule")) ({ frames := 0, cells := 0, slots := 0, locals := 0 } : Room) Z #[(.ref a)] h0 (fun v h L => v = some (.ref r) ∧ Fr Z.heap.size L ∧ h0 = h) := by
  refine Con.of (plainFor_of_name pn_8) (Ls := #[.val (.ref a)]) (fun m => by first | rfl | (simp [entryFrame, mkF, argsToLocals, Value.category]; done)) ?_
  intro p e s m below meth c T0 X0 hx hZ hby hml hown hnm hret hlk e0
  refine go (fun _ => XS.aloadN X0.here hx rfl (hb hby d_prog_10_method_5_0) rfl rfl) ?_
  show Ends p e below s _ _ _ T0 (mkF m 1 #[.val (.ref a)] [(.ref a)])
  obtain ⟨T170, X170, e170, s170⟩ := getF X0 hx hZ hown (host := "") (Or.inl (hw _ (List.mem_of_getElem? (i := 76) rfl))) Via.refl e0 F0 (g := (mkF m 1 #[.val (.ref a)] [(.ref a)])) rfl rfl (hb hby d_prog_10_method_5_1)
  refine go s170 ?_
  show Ends p e below s _ _ _ T170 (mkF m 4 #[.val (.ref a)] [(.ref r)])
  exact endA X170 hx hlk hret rfl rfl (hb hby d_prog_10_method_5_4) e170 ⟨rfl, (Fr.nil _), rfl⟩ (by decide) (by decide)
set_option maxRecDepth 65536 in
set_option maxHeartbeats 40000000 in
theorem rm_law {l : Launch} {Z : State} {a0 : Array Value} (hw : ∀ d ∈ tables_1, d.before a0 Z = true) (i0 : Int32) (a_DeleteAction_NO_ACTION : Addr) (a_DeletionRule_RESTRICT : Addr) (a_DeleteAction__VALUES : Addr) (a_DeleteAction_RESTRICT : Addr) (a_DeleteAction_CASCADE : Addr) (a_DeleteAction_SET_NULL : Addr) (a_DeleteAction_SET_DEFAULT : Addr) (a_DeleteAction_NO_ACTION_catalogCode : Addr) (a_DeleteAction_NO_ACTION_catalogCode_value : Addr) (a_DeletionRule_DETACH : Addr) (a_DeleteAction_RESTRICT_catalogCode : Addr) (a_DeleteAction_RESTRICT_catalogCode_value : Addr) (a_DeleteAction_CASCADE_catalogCode : Addr) (a_DeleteAction_CASCADE_catalogCode_value : Addr) (a_DeleteAction_SET_NULL_catalogCode : Addr) (a_DeleteAction_SET_NULL_catalogCode_value : Addr) (a_DeleteAction_SET_DEFAULT_catalogCode : Addr) (a_DeleteAction_SET_DEFAULT_catalogCode_value : Addr) (a_DeletionRule_CASCADE : Addr) (k_a_DeleteAction__VALUES : ClassId) (k_a_DeleteAction_NO_ACTION_catalogCode_value : ClassId) (k_a_DeleteAction_RESTRICT_catalogCode_value : ClassId) (k_a_DeleteAction_CASCADE_catalogCode_value : ClassId) (k_a_DeleteAction_SET_NULL_catalogCode_value : ClassId) (k_a_DeleteAction_SET_DEFAULT_catalogCode_value : ClassId) (h0 : Heap) (O0 : Ext Z.heap h0) (cz : Int32) (SCS : Sta Z Z.heap "java/lang/String" "COMPACT_STRINGS" "Z" (.int cz)) (hcz : ¬ cz = (0 : Int32)) (ft_2 : Sta Z Z.heap "com/example/scopa/scopa/schema/DeleteAction" "NO_ACTION" "Lcom/example/scopa/scopa/schema/DeleteAction;" (.ref a_DeleteAction_NO_ACTION)) (ft_5 : Sta Z Z.heap "com/example/scopa/scopa/schema/DeletionRule" "RESTRICT" "Lcom/example/scopa/scopa/schema/DeletionRule;" (.ref a_DeletionRule_RESTRICT)) (ft_8 : Sta Z Z.heap "com/example/scopa/scopa/schema/DeleteAction" "$VALUES" "[Lcom/example/scopa/scopa/schema/DeleteAction;" (.ref a_DeleteAction__VALUES)) (ft_15 : Sta Z Z.heap "com/example/scopa/scopa/schema/DeleteAction" "RESTRICT" "Lcom/example/scopa/scopa/schema/DeleteAction;" (.ref a_DeleteAction_RESTRICT)) (ft_20 : Sta Z Z.heap "com/example/scopa/scopa/schema/DeleteAction" "CASCADE" "Lcom/example/scopa/scopa/schema/DeleteAction;" (.ref a_DeleteAction_CASCADE)) (ft_25 : Sta Z Z.heap "com/example/scopa/scopa/schema/DeleteAction" "SET_NULL" "Lcom/example/scopa/scopa/schema/DeleteAction;" (.ref a_DeleteAction_SET_NULL)) (ft_30 : Sta Z Z.heap "com/example/scopa/scopa/schema/DeleteAction" "SET_DEFAULT" "Lcom/example/scopa/scopa/schema/DeleteAction;" (.ref a_DeleteAction_SET_DEFAULT)) (ft_48 : Sta Z Z.heap "com/example/scopa/scopa/schema/DeletionRule" "DETACH" "Lcom/example/scopa/scopa/schema/DeletionRule;" (.ref a_DeletionRule_DETACH)) (ft_101 : Sta Z Z.heap "com/example/scopa/scopa/schema/DeletionRule" "CASCADE" "Lcom/example/scopa/scopa/schema/DeletionRule;" (.ref a_DeletionRule_CASCADE)) (ex_3 : Exa Z Z.heap a_DeleteAction_NO_ACTION "com/example/scopa/scopa/schema/DeleteAction") (ex_6 : Exa Z Z.heap a_DeletionRule_RESTRICT "com/example/scopa/scopa/schema/DeletionRule") (ex_10 : Exa Z Z.heap a_DeleteAction__VALUES "[Lcom/example/scopa/scopa/schema/DeleteAction;") (ex_16 : Exa Z Z.heap a_DeleteAction_RESTRICT "com/example/scopa/scopa/schema/DeleteAction") (ex_21 : Exa Z Z.heap a_DeleteAction_CASCADE "com/example/scopa/scopa/schema/DeleteAction") (ex_26 : Exa Z Z.heap a_DeleteAction_SET_NULL "com/example/scopa/scopa/schema/DeleteAction") (ex_31 : Exa Z Z.heap a_DeleteAction_SET_DEFAULT "com/example/scopa/scopa/schema/DeleteAction") (ex_36 : Exa Z Z.heap a_DeleteAction_NO_ACTION_catalogCode "java/lang/String") (ex_49 : Exa Z Z.heap a_DeletionRule_DETACH "com/example/scopa/scopa/schema/DeletionRule") (ex_52 : Exa Z Z.heap a_DeleteAction_RESTRICT_catalogCode "java/lang/String") (ex_63 : Exa Z Z.heap a_DeleteAction_CASCADE_catalogCode "java/lang/String") (ex_74 : Exa Z Z.heap a_DeleteAction_SET_NULL_catalogCode "java/lang/String") (ex_89 : Exa Z Z.heap a_DeleteAction_SET_DEFAULT_catalogCode "java/lang/String") (ex_102 : Exa Z Z.heap a_DeletionRule_CASCADE "com/example/scopa/scopa/schema/DeletionRule") (ft_35 : Fld Z Z.heap a_DeleteAction_NO_ACTION "com/example/scopa/scopa/schema/DeleteAction" "catalogCode" "Ljava/lang/String;" (.ref a_DeleteAction_NO_ACTION_catalogCode)) (ft_38 : Fld Z Z.heap a_DeleteAction_NO_ACTION_catalogCode "java/lang/String" "coder" "B" (.int (0 : Int32))) (ft_40 : Fld Z Z.heap a_DeleteAction_NO_ACTION_catalogCode "java/lang/String" "value" "[B" (.ref a_DeleteAction_NO_ACTION_catalogCode_value)) (ft_46 : Fld Z Z.heap a_DeleteAction_NO_ACTION "com/example/scopa/scopa/schema/DeleteAction" "rule" "Lcom/example/scopa/scopa/schema/DeletionRule;" (.ref a_DeletionRule_RESTRICT)) (ft_51 : Fld Z Z.heap a_DeleteAction_RESTRICT "com/example/scopa/scopa/schema/DeleteAction" "catalogCode" "Ljava/lang/String;" (.ref a_DeleteAction_RESTRICT_catalogCode)) (ft_54 : Fld Z Z.heap a_DeleteAction_RESTRICT_catalogCode "java/lang/String" "coder" "B" (.int (0 : Int32))) (ft_56 : Fld Z Z.heap a_DeleteAction_RESTRICT_catalogCode "java/lang/String" "value" "[B" (.ref a_DeleteAction_RESTRICT_catalogCode_value)) (ft_62 : Fld Z Z.heap a_DeleteAction_CASCADE "com/example/scopa/scopa/schema/DeleteAction" "catalogCode" "Ljava/lang/String;" (.ref a_DeleteAction_CASCADE_catalogCode)) (ft_65 : Fld Z Z.heap a_DeleteAction_CASCADE_catalogCode "java/lang/String" "coder" "B" (.int (0 : Int32))) (ft_67 : Fld Z Z.heap a_DeleteAction_CASCADE_catalogCode "java/lang/String" "value" "[B" (.ref a_DeleteAction_CASCADE_catalogCode_value)) (ft_73 : Fld Z Z.heap a_DeleteAction_SET_NULL "com/example/scopa/scopa/schema/DeleteAction" "catalogCode" "Ljava/lang/String;" (.ref a_DeleteAction_SET_NULL_catalogCode)) (ft_76 : Fld Z Z.heap a_DeleteAction_SET_NULL_catalogCode "java/lang/String" "coder" "B" (.int (0 : Int32))) (ft_78 : Fld Z Z.heap a_DeleteAction_SET_NULL_catalogCode "java/lang/String" "value" "[B" (.ref a_DeleteAction_SET_NULL_catalogCode_value)) (ft_84 : Fld Z Z.heap a_DeleteAction_SET_NULL "com/example/scopa/scopa/schema/DeleteAction" "rule" "Lcom/example/scopa/scopa/schema/DeletionRule;" (.ref a_DeletionRule_DETACH)) (ft_86 : Fld Z Z.heap a_DeleteAction_RESTRICT "com/example/scopa/scopa/schema/DeleteAction" "rule" "Lcom/example/scopa/scopa/schema/DeletionRule;" (.ref a_DeletionRule_RESTRICT)) (ft_88 : Fld Z Z.heap a_DeleteAction_SET_DEFAULT "com/example/scopa/scopa/schema/DeleteAction" "catalogCode" "Ljava/lang/String;" (.ref a_DeleteAction_SET_DEFAULT_catalogCode)) (ft_91 : Fld Z Z.heap a_DeleteAction_SET_DEFAULT_catalogCode "java/lang/String" "coder" "B" (.int (0 : Int32))) (ft_93 : Fld Z Z.heap a_DeleteAction_SET_DEFAULT_catalogCode "java/lang/String" "value" "[B" (.ref a_DeleteAction_SET_DEFAULT_catalogCode_value)) (ft_99 : Fld Z Z.heap a_DeleteAction_SET_DEFAULT "com/example/scopa/scopa/schema/DeleteAction" "rule" "Lcom/example/scopa/scopa/schema/DeletionRule;" (.ref a_DeletionRule_DETACH)) (ft_104 : Fld Z Z.heap a_DeleteAction_CASCADE "com/example/scopa/scopa/schema/DeleteAction" "rule" "Lcom/example/scopa/scopa/schema/DeletionRule;" (.ref a_DeletionRule_CASCADE)) (av_105 : Arv Z Z.heap a_DeleteAction__VALUES k_a_DeleteAction__VALUES (.object "com/example/scopa/scopa/schema/DeleteAction") (5 : Int32) [(.ref a_DeleteAction_NO_ACTION), (.ref a_DeleteAction_RESTRICT), (.ref a_DeleteAction_CASCADE), (.ref a_DeleteAction_SET_NULL), (.ref a_DeleteAction_SET_DEFAULT)] .null) (av_106 : Arv Z Z.heap a_DeleteAction_NO_ACTION_catalogCode_value k_a_DeleteAction_NO_ACTION_catalogCode_value .byte (1 : Int32) [(.int (97 : Int32))] (.int 0)) (av_107 : Arv Z Z.heap a_DeleteAction_RESTRICT_catalogCode_value k_a_DeleteAction_RESTRICT_catalogCode_value .byte (1 : Int32) [(.int (114 : Int32))] (.int 0)) (av_108 : Arv Z Z.heap a_DeleteAction_CASCADE_catalogCode_value k_a_DeleteAction_CASCADE_catalogCode_value .byte (1 : Int32) [(.int (99 : Int32))] (.int 0)) (av_109 : Arv Z Z.heap a_DeleteAction_SET_NULL_catalogCode_value k_a_DeleteAction_SET_NULL_catalogCode_value .byte (1 : Int32) [(.int (110 : Int32))] (.int 0)) (av_110 : Arv Z Z.heap a_DeleteAction_SET_DEFAULT_catalogCode_value k_a_DeleteAction_SET_DEFAULT_catalogCode_value .byte (1 : Int32) [(.int (100 : Int32))] (.int 0)) :
    Con l x code maxLocals ret room_1 Z #[(.int i0)] h0 (fun v h L => v = some (.int 1) ∧ Fr Z.heap.size L) := by
  refine Con.of (plainFor_of_name pn_11) (Ls := #[.val (.int i0), .unset, .unset, .unset, .unset, .unset, .unset, .unset]) (fun m => by first | rfl | (simp [entryFrame, mkF, argsToLocals, Value.category, maxLocals]; done)) ?_
  intro p e s m below meth c T0 X0 hx hZ hby hml hown hnm hret hlk e0
  have hml : c.maxLocals = 8 := hml
  refine go (fun _ => XS.iloadN X0.here hx rfl (hb hby at_0) rfl) ?_
  show Ends p e below s _ _ _ T0 (mkF m 1 #[.val (.int i0), .unset, .unset, .unset, .unset, .unset, .unset, .unset] [(.int i0)])
  refine go (fun _ => Jvm.Stand.ldcI X0 hx hown (mvT hZ (hw _ (List.mem_of_getElem? (i := 0) rfl))) rfl (hb hby at_1)) ?_
  show Ends p e below s _ _ _ T0 (mkF m 3 #[.val (.int i0), .unset, .unset, .unset, .unset, .unset, .unset, .unset] [(.int (2147483647 : Int32)), (.int i0)])
  refine go (fun _ => XS.iand X0.here hx rfl (hb hby at_3) rfl) ?_
  show Ends p e below s _ _ _ T0 (mkF m 4 #[.val (.int i0), .unset, .unset, .unset, .unset, .unset, .unset, .unset] [(.int (i0 &&& (2147483647 : Int32)))])
  refine go (fun _ => XT.iconstV X0.here hx rfl (5 : Int32) (hb hby at_4) (by decide)) ?_
  show Ends p e below s _ _ _ T0 (mkF m 5 #[.val (.int i0), .unset, .unset, .unset, .unset, .unset, .unset, .unset] [(.int (5 : Int32)), (.int (i0 &&& (2147483647 : Int32)))])
  refine go (fun _ => iremM X0 hx rfl (hb hby at_5) rfl (by decide)) ?_
  show Ends p e below s _ _ _ T0 (mkF m 6 #[.val (.int i0), .unset, .unset, .unset, .unset, .unset, .unset, .unset] [(.int ((i0 &&& (2147483647 : Int32)) % (5 : Int32)))])
  refine go (fun _ => XS.istoreN X0.here hx rfl (hb hby at_6) rfl (l' := #[.val (.int i0), .val (.int ((i0 &&& (2147483647 : Int32)) % (5 : Int32))), .unset, .unset, .unset, .unset, .unset, .unset]) rfl) ?_
  show Ends p e below s _ _ _ T0 (mkF m 7 #[.val (.int i0), .val (.int ((i0 &&& (2147483647 : Int32)) % (5 : Int32))), .unset, .unset, .unset, .unset, .unset, .unset] [])
  refine go (fun _ => XS.iloadN X0.here hx rfl (hb hby at_7) rfl) ?_
  show Ends p e below s _ _ _ T0 (mkF m 8 #[.val (.int i0), .val (.int ((i0 &&& (2147483647 : Int32)) % (5 : Int32))), .unset, .unset, .unset, .unset, .unset, .unset] [(.int ((i0 &&& (2147483647 : Int32)) % (5 : Int32)))])
  by_cases c8_171 : ((i0 &&& (2147483647 : Int32)) % (5 : Int32)) = (0 : Int32)
  · refine go (fun _ => XS.ifNo X0.here hx rfl (hb hby at_8) rfl (XT.i0_ne_f c8_171)) ?_
    show Ends p e below s _ _ _ T0 (mkF m 11 #[.val (.int i0), .val (.int ((i0 &&& (2147483647 : Int32)) % (5 : Int32))), .unset, .unset, .unset, .unset, .unset, .unset] [])
    refine go (fun _ => XT.bipushV X0.here hx rfl (97 : Int32) (hb hby at_11) (by decide)) ?_
    show Ends p e below s _ _ _ T0 (mkF m 13 #[.val (.int i0), .val (.int ((i0 &&& (2147483647 : Int32)) % (5 : Int32))), .unset, .unset, .unset, .unset, .unset, .unset] [(.int (97 : Int32))])
    refine go (fun _ => XS.istoreN X0.here hx rfl (hb hby at_13) rfl (l' := #[.val (.int i0), .val (.int ((i0 &&& (2147483647 : Int32)) % (5 : Int32))), .val (.int (97 : Int32)), .unset, .unset, .unset, .unset, .unset]) rfl) ?_
    show Ends p e below s _ _ _ T0 (mkF m 14 #[.val (.int i0), .val (.int ((i0 &&& (2147483647 : Int32)) % (5 : Int32))), .val (.int (97 : Int32)), .unset, .unset, .unset, .unset, .unset] [])
    obtain ⟨T172, X172, e172, s172⟩ := getS2 X0 hx hZ hown (host := "") (Or.inl (hw _ (List.mem_of_getElem? (i := 1) rfl))) Via.refl e0 (Sta.ext O0 ft_2) (g := (mkF m 14 #[.val (.int i0), .val (.int ((i0 &&& (2147483647 : Int32)) % (5 : Int32))), .val (.int (97 : Int32)), .unset, .unset, .unset, .unset, .unset] [])) rfl (hb hby at_14)
    refine go s172 ?_
    show Ends p e below s _ _ _ T172 (mkF m 17 #[.val (.int i0), .val (.int ((i0 &&& (2147483647 : Int32)) % (5 : Int32))), .val (.int (97 : Int32)), .unset, .unset, .unset, .unset, .unset] [(.ref a_DeleteAction_NO_ACTION)])
    refine go (fun _ => XS.astoreN X172.here hx rfl (hb hby at_17) rfl rfl (l' := #[.val (.int i0), .val (.int ((i0 &&& (2147483647 : Int32)) % (5 : Int32))), .val (.int (97 : Int32)), .val (.ref a_DeleteAction_NO_ACTION), .unset, .unset, .unset, .unset]) rfl) ?_
    show Ends p e below s _ _ _ T172 (mkF m 18 #[.val (.int i0), .val (.int ((i0 &&& (2147483647 : Int32)) % (5 : Int32))), .val (.int (97 : Int32)), .val (.ref a_DeleteAction_NO_ACTION), .unset, .unset, .unset, .unset] [])
    obtain ⟨T173, X173, e173, s173⟩ := getS2 X172 hx hZ hown (host := "") (Or.inl (hw _ (List.mem_of_getElem? (i := 4) rfl))) Via.refl e172 (Sta.ext O0 ft_5) (g := (mkF m 18 #[.val (.int i0), .val (.int ((i0 &&& (2147483647 : Int32)) % (5 : Int32))), .val (.int (97 : Int32)), .val (.ref a_DeleteAction_NO_ACTION), .unset, .unset, .unset, .unset] [])) rfl (hb hby at_18)
    refine go s173 ?_
    show Ends p e below s _ _ _ T173 (mkF m 21 #[.val (.int i0), .val (.int ((i0 &&& (2147483647 : Int32)) % (5 : Int32))), .val (.int (97 : Int32)), .val (.ref a_DeleteAction_NO_ACTION), .unset, .unset, .unset, .unset] [(.ref a_DeletionRule_RESTRICT)])
    refine go (fun _ => XS.astore X173.here hx rfl (hb hby at_21) rfl rfl (l' := #[.val (.int i0), .val (.int ((i0 &&& (2147483647 : Int32)) % (5 : Int32))), .val (.int (97 : Int32)), .val (.ref a_DeleteAction_NO_ACTION), .val (.ref a_DeletionRule_RESTRICT), .unset, .unset, .unset]) rfl) ?_
    show Ends p e below s _ _ _ T173 (mkF m 23 #[.val (.int i0), .val (.int ((i0 &&& (2147483647 : Int32)) % (5 : Int32))), .val (.int (97 : Int32)), .val (.ref a_DeleteAction_NO_ACTION), .val (.ref a_DeletionRule_RESTRICT), .unset, .unset, .unset] [])
    refine go (fun _ => XS.goto X173.here hx rfl (pc0 := 23) (pc' := 98) rfl (hb hby at_23) (by decide) (by decide)) ?_
    show Ends p e below s _ _ _ T173 (mkF m 98 #[.val (.int i0), .val (.int ((i0 &&& (2147483647 : Int32)) % (5 : Int32))), .val (.int (97 : Int32)), .val (.ref a_DeleteAction_NO_ACTION), .val (.ref a_DeletionRule_RESTRICT), .unset, .unset, .unset] [])
    refine go (fun _ => XT.iconstV X173.here hx rfl (1 : Int32) (hb hby at_98) (by decide)) ?_
    show Ends p e below s _ _ _ T173 (mkF m 99 #[.val (.int i0), .val (.int ((i0 &&& (2147483647 : Int32)) % (5 : Int32))), .val (.int (97 : Int32)), .val (.ref a_DeleteAction_NO_ACTION), .val (.ref a_DeletionRule_RESTRICT), .unset, .unset, .unset] [(.int (1 : Int32))])
    obtain ⟨T174, h174, k174, X174, e174, E174, A174, s174⟩ := newP X173 hx hZ (hw _ (List.mem_of_getElem? (i := 7) rfl)) e173 (g := (mkF m 99 #[.val (.int i0), .val (.int ((i0 &&& (2147483647 : Int32)) % (5 : Int32))), .val (.int (97 : Int32)), .val (.ref a_DeleteAction_NO_ACTION), .val (.ref a_DeletionRule_RESTRICT), .unset, .unset, .unset] [(.int (1 : Int32))])) rfl (hb hby at_99) rfl (by decide) (cap := 1) (by decide) (by decide) (by decide) (by decide)
    obtain ⟨a174, g174⟩ : ∃ z : Addr, z = h0.size := ⟨_, rfl⟩
    have f174 : Z.heap.size ≤ a174 := by rw [g174]; exact (O0).1
    rw [← g174] at A174 s174
    have O175 : Ext Z.heap h174 := xx O0 E174
    have V174 : Arv Z h174 a174 k174 .char (1 : Int32) [(.int (0 : Int32))] (.int 0) := Arv.pad (Arv.new A174 (by decide)) (pad_rep [] _ 1)
    refine go s174 ?_
    show Ends p e below s _ _ _ T174 (mkF m 101 #[.val (.int i0), .val (.int ((i0 &&& (2147483647 : Int32)) % (5 : Int32))), .val (.int (97 : Int32)), .val (.ref a_DeleteAction_NO_ACTION), .val (.ref a_DeletionRule_RESTRICT), .unset, .unset, .unset] [(.ref a174)])
    refine go (fun _ => XS.astore X174.here hx rfl (hb hby at_101) rfl rfl (l' := #[.val (.int i0), .val (.int ((i0 &&& (2147483647 : Int32)) % (5 : Int32))), .val (.int (97 : Int32)), .val (.ref a_DeleteAction_NO_ACTION), .val (.ref a_DeletionRule_RESTRICT), .val (.ref a174), .unset, .unset]) rfl) ?_
    show Ends p e below s _ _ _ T174 (mkF m 103 #[.val (.int i0), .val (.int ((i0 &&& (2147483647 : Int32)) % (5 : Int32))), .val (.int (97 : Int32)), .val (.ref a_DeleteAction_NO_ACTION), .val (.ref a_DeletionRule_RESTRICT), .val (.ref a174), .unset, .unset] [])
    refine go (fun _ => XS.aload X174.here hx rfl (hb hby at_103) rfl rfl) ?_
    show Ends p e below s _ _ _ T174 (mkF m 105 #[.val (.int i0), .val (.int ((i0 &&& (2147483647 : Int32)) % (5 : Int32))), .val (.int (97 : Int32)), .val (.ref a_DeleteAction_NO_ACTION), .val (.ref a_DeletionRule_RESTRICT), .val (.ref a174), .unset, .unset] [(.ref a174)])
    refine go (fun _ => XT.iconstV X174.here hx rfl (0 : Int32) (hb hby at_105) (by decide)) ?_
    show Ends p e below s _ _ _ T174 (mkF m 106 #[.val (.int i0), .val (.int ((i0 &&& (2147483647 : Int32)) % (5 : Int32))), .val (.int (97 : Int32)), .val (.ref a_DeleteAction_NO_ACTION), .val (.ref a_DeletionRule_RESTRICT), .val (.ref a174), .unset, .unset] [(.int (0 : Int32)), (.ref a174)])
    refine go (fun _ => XS.iloadN X174.here hx rfl (hb hby at_106) rfl) ?_
    show Ends p e below s _ _ _ T174 (mkF m 107 #[.val (.int i0), .val (.int ((i0 &&& (2147483647 : Int32)) % (5 : Int32))), .val (.int (97 : Int32)), .val (.ref a_DeleteAction_NO_ACTION), .val (.ref a_DeletionRule_RESTRICT), .val (.ref a174), .unset, .unset] [(.int (97 : Int32)), (.int (0 : Int32)), (.ref a174)])
    obtain ⟨c176, A176, q176, S176, M176, H176, G176⟩ := id V174
    obtain ⟨T176, h176, X176, e176, W176, s176⟩ := stC X174 hx hZ e174 A176 (j := (0 : Int32)) (inb_of S176 (by decide)) (g := (mkF m 107 #[.val (.int i0), .val (.int ((i0 &&& (2147483647 : Int32)) % (5 : Int32))), .val (.int (97 : Int32)), .val (.ref a_DeleteAction_NO_ACTION), .val (.ref a_DeletionRule_RESTRICT), .val (.ref a174), .unset, .unset] [(.int (97 : Int32)), (.int (0 : Int32)), (.ref a174)])) rfl rfl (hb hby at_107)
    have r176 : nar .char (97 : Int32) = (97 : Int32) := (by decide)
    rw [r176] at W176
    have N176 := Fr.snoc X176 (Fr.nil _) f174
    have O177 : Ext Z.heap h176 := xw O175 W176 f174
    have V176 : Arv Z h176 a174 k174 .char (1 : Int32) [(.int (97 : Int32))] (.int 0) := Arv.set A176 q176 S176 M176 H176 G176 (by first | rfl | exact fits_nar_char (97 : Int32) | (rw [← r176]; exact fits_nar_char (97 : Int32))) W176 0 (by decide) (by decide)
    refine go s176 ?_
    show Ends p e below s _ _ _ T176 (mkF m 108 #[.val (.int i0), .val (.int ((i0 &&& (2147483647 : Int32)) % (5 : Int32))), .val (.int (97 : Int32)), .val (.ref a_DeleteAction_NO_ACTION), .val (.ref a_DeletionRule_RESTRICT), .val (.ref a174), .unset, .unset] [])
    obtain ⟨T178, h178, X178, e178, E178, A178, D178, U178, s178⟩ := newO X176 hx hZ hown (hw _ (List.mem_of_getElem? (i := 8) rfl)) (hw _ (List.mem_of_getElem? (i := 9) rfl)) (hw _ (List.mem_of_getElem? (i := 10) rfl)) e176 (g := (mkF m 108 #[.val (.int i0), .val (.int ((i0 &&& (2147483647 : Int32)) % (5 : Int32))), .val (.int (97 : Int32)), .val (.ref a_DeleteAction_NO_ACTION), .val (.ref a_DeletionRule_RESTRICT), .val (.ref a174), .unset, .unset] [])) rfl (hb hby at_108) (by decide) (by decide)
    obtain ⟨a178, g178⟩ : ∃ z : Addr, z = h176.size := ⟨_, rfl⟩
    have n179 : a174 ≠ a178 := fun q => absurd (V176.lt) (by rw [q, g178]; exact Nat.lt_irrefl _)
    have f178 : Z.heap.size ≤ a178 := by rw [g178]; exact (O177).1
    rw [← g178] at A178 D178 U178 s178
    have O180 : Ext Z.heap h178 := xx O177 E178
    refine go s178 ?_
    show Ends p e below s _ _ _ T178 (mkF m 111 #[.val (.int i0), .val (.int ((i0 &&& (2147483647 : Int32)) % (5 : Int32))), .val (.int (97 : Int32)), .val (.ref a_DeleteAction_NO_ACTION), .val (.ref a_DeletionRule_RESTRICT), .val (.ref a174), .unset, .unset] [(.ref a178)])
    refine go (fun _ => XS.dup X178.here hx rfl (hb hby at_111) rfl rfl) ?_
    show Ends p e below s _ _ _ T178 (mkF m 112 #[.val (.int i0), .val (.int ((i0 &&& (2147483647 : Int32)) % (5 : Int32))), .val (.int (97 : Int32)), .val (.ref a_DeleteAction_NO_ACTION), .val (.ref a_DeletionRule_RESTRICT), .val (.ref a174), .unset, .unset] [(.ref a178), (.ref a178)])
    refine go (fun _ => XS.aload X178.here hx rfl (hb hby at_112) rfl rfl) ?_
    show Ends p e below s _ _ _ T178 (mkF m 114 #[.val (.int i0), .val (.int ((i0 &&& (2147483647 : Int32)) % (5 : Int32))), .val (.int (97 : Int32)), .val (.ref a_DeleteAction_NO_ACTION), .val (.ref a_DeletionRule_RESTRICT), .val (.ref a174), .unset, .unset] [(.ref a174), (.ref a178), (.ref a178)])
    have F181 := (D178 (Or.inr (hw _ (List.mem_of_getElem? (i := 36) rfl))) (ty := (.array .byte)) (by decide))
    have F182 := (D178 (Or.inr (hw _ (List.mem_of_getElem? (i := 34) rfl))) (ty := .byte) (by decide))
    have F183 := (Arv.ext V176 E178)
    refine cInit X178 hx hZ hown (by rw [hml]; rfl) e178 (hw _ (List.mem_of_getElem? (i := 11) rfl)) (hw _ (List.mem_of_getElem? (i := 12) rfl)) (hw _ (List.mem_of_getElem? (i := 10) rfl)) (hw _ (List.mem_of_getElem? (i := 13) rfl)) a178 [(.ref a174)] [(.ref a178)] rfl (rm_new1_1 hw a178 a174 k174 (97 : Int32) _ O180 f178 (Ne.symm n179) A178 F181 F182 cz SCS hcz F183 (by decide)) (hb hby at_114) rfl (lenOf pd_12 rfl) rfl (by decide) (by decide) (Nat.le_of_ble_eq_true rfl) (by decide) (by decide) ?_
    rintro v184 T184 h184 L184 X184 e184 ⟨b184, k184, rfl, N184, K184, g184, Fv184, Fc184, V184⟩
    have N184a := Fr.app N176 N184
    have n185 : a174 ≠ b184 := Nat.ne_of_lt (Nat.lt_of_lt_of_le (F183.lt) g184)
    have n186 : a178 ≠ b184 := Nat.ne_of_lt (Nat.lt_of_lt_of_le (A178.lt) g184)
    have f187 : Z.heap.size ≤ b184 := Nat.le_trans (O180).1 g184
    have O188 : Ext Z.heap h184 := xk O180 K184 (allS f178 all0)
    have Vl184 : Arv Z h184 b184 k184 .byte (1 : Int32) [(.int (97 : Int32))] (.int 0) := V184
    show Ends p e below s _ _ _ T184 (mkF m 117 #[.val (.int i0), .val (.int ((i0 &&& (2147483647 : Int32)) % (5 : Int32))), .val (.int (97 : Int32)), .val (.ref a_DeleteAction_NO_ACTION), .val (.ref a_DeletionRule_RESTRICT), .val (.ref a174), .unset, .unset] [(.ref a178)])
    refine go (fun _ => XS.astore X184.here hx rfl (hb hby at_117) rfl rfl (l' := #[.val (.int i0), .val (.int ((i0 &&& (2147483647 : Int32)) % (5 : Int32))), .val (.int (97 : Int32)), .val (.ref a_DeleteAction_NO_ACTION), .val (.ref a_DeletionRule_RESTRICT), .val (.ref a174), .val (.ref a178), .unset]) rfl) ?_
    show Ends p e below s _ _ _ T184 (mkF m 119 #[.val (.int i0), .val (.int ((i0 &&& (2147483647 : Int32)) % (5 : Int32))), .val (.int (97 : Int32)), .val (.ref a_DeleteAction_NO_ACTION), .val (.ref a_DeletionRule_RESTRICT), .val (.ref a174), .val (.ref a178), .unset] [])
    refine go (fun _ => XS.aload X184.here hx rfl (hb hby at_119) rfl rfl) ?_
    show Ends p e below s _ _ _ T184 (mkF m 121 #[.val (.int i0), .val (.int ((i0 &&& (2147483647 : Int32)) % (5 : Int32))), .val (.int (97 : Int32)), .val (.ref a_DeleteAction_NO_ACTION), .val (.ref a_DeletionRule_RESTRICT), .val (.ref a174), .val (.ref a178), .unset] [(.ref a178)])
    have F189 := (Exa.keep A178 K184)
    refine cStat X184 hx hZ hown (by rw [hml]; rfl) e184 (hw _ (List.mem_of_getElem? (i := 37) rfl)) (hw _ (List.mem_of_getElem? (i := 38) rfl)) (hw _ (List.mem_of_getElem? (i := 2) rfl)) (hw _ (List.mem_of_getElem? (i := 39) rfl)) [(.ref a178)] [] rfl (rm_from_97 hw a178 b184 k184 a_DeleteAction_NO_ACTION a_DeletionRule_RESTRICT a_DeleteAction__VALUES a_DeleteAction_RESTRICT a_DeleteAction_CASCADE a_DeleteAction_SET_NULL a_DeleteAction_SET_DEFAULT a_DeleteAction_NO_ACTION_catalogCode a_DeleteAction_NO_ACTION_catalogCode_value a_DeletionRule_DETACH a_DeleteAction_RESTRICT_catalogCode a_DeleteAction_RESTRICT_catalogCode_value a_DeleteAction_CASCADE_catalogCode a_DeleteAction_CASCADE_catalogCode_value a_DeleteAction_SET_NULL_catalogCode a_DeleteAction_SET_NULL_catalogCode_value a_DeleteAction_SET_DEFAULT_catalogCode a_DeleteAction_SET_DEFAULT_catalogCode_value a_DeletionRule_CASCADE k_a_DeleteAction__VALUES k_a_DeleteAction_NO_ACTION_catalogCode_value k_a_DeleteAction_RESTRICT_catalogCode_value k_a_DeleteAction_CASCADE_catalogCode_value k_a_DeleteAction_SET_NULL_catalogCode_value k_a_DeleteAction_SET_DEFAULT_catalogCode_value _ O188 cz SCS hcz ft_2 ft_5 ft_8 ft_15 ft_20 ft_25 ft_30 ft_48 ft_101 ex_3 ex_6 ex_10 ex_16 ex_21 ex_26 ex_31 ex_36 ex_49 ex_52 ex_63 ex_74 ex_89 ex_102 ft_35 ft_38 ft_40 ft_46 ft_51 ft_54 ft_56 ft_62 ft_65 ft_67 ft_73 ft_76 ft_78 ft_84 ft_86 ft_88 ft_91 ft_93 ft_99 ft_104 av_105 av_106 av_107 av_108 av_109 av_110 f178 F189 Fv184 Fc184 Vl184) (hb hby at_121) rfl (lenOf pd_13 rfl) (by decide) (by decide) (Nat.le_of_ble_eq_true rfl) (by decide) (by decide) ?_
    rintro v190 T190 h190 L190 X190 e190 ⟨rfl, N190, K190⟩
    have N190a := Fr.app N184a N190
    have O191 : Ext Z.heap h190 := xk O188 K190 all0
    show Ends p e below s _ _ _ T190 (mkF m 124 #[.val (.int i0), .val (.int ((i0 &&& (2147483647 : Int32)) % (5 : Int32))), .val (.int (97 : Int32)), .val (.ref a_DeleteAction_NO_ACTION), .val (.ref a_DeletionRule_RESTRICT), .val (.ref a174), .val (.ref a178), .unset] [(.ref a_DeleteAction_NO_ACTION)])
    refine go (fun _ => XS.astore X190.here hx rfl (hb hby at_124) rfl rfl (l' := #[.val (.int i0), .val (.int ((i0 &&& (2147483647 : Int32)) % (5 : Int32))), .val (.int (97 : Int32)), .val (.ref a_DeleteAction_NO_ACTION), .val (.ref a_DeletionRule_RESTRICT), .val (.ref a174), .val (.ref a178), .val (.ref a_DeleteAction_NO_ACTION)]) rfl) ?_
    show Ends p e below s _ _ _ T190 (mkF m 126 #[.val (.int i0), .val (.int ((i0 &&& (2147483647 : Int32)) % (5 : Int32))), .val (.int (97 : Int32)), .val (.ref a_DeleteAction_NO_ACTION), .val (.ref a_DeletionRule_RESTRICT), .val (.ref a174), .val (.ref a178), .val (.ref a_DeleteAction_NO_ACTION)] [])
    refine go (fun _ => XS.aload X190.here hx rfl (hb hby at_126) rfl rfl) ?_
    show Ends p e below s _ _ _ T190 (mkF m 128 #[.val (.int i0), .val (.int ((i0 &&& (2147483647 : Int32)) % (5 : Int32))), .val (.int (97 : Int32)), .val (.ref a_DeleteAction_NO_ACTION), .val (.ref a_DeletionRule_RESTRICT), .val (.ref a174), .val (.ref a178), .val (.ref a_DeleteAction_NO_ACTION)] [(.ref a_DeleteAction_NO_ACTION)])
    refine go (fun _ => XS.aloadN X190.here hx rfl (hb hby at_128) rfl rfl) ?_
    show Ends p e below s _ _ _ T190 (mkF m 129 #[.val (.int i0), .val (.int ((i0 &&& (2147483647 : Int32)) % (5 : Int32))), .val (.int (97 : Int32)), .val (.ref a_DeleteAction_NO_ACTION), .val (.ref a_DeletionRule_RESTRICT), .val (.ref a174), .val (.ref a178), .val (.ref a_DeleteAction_NO_ACTION)] [(.ref a_DeleteAction_NO_ACTION), (.ref a_DeleteAction_NO_ACTION)])
    refine go (fun _ => XT.acmpNo X190.here hx rfl (hb hby at_129) rfl rfl rfl (XT.aa_ne_f (rfl : ((.ref a_DeleteAction_NO_ACTION) : Value) = (.ref a_DeleteAction_NO_ACTION)))) ?_
    show Ends p e below s _ _ _ T190 (mkF m 132 #[.val (.int i0), .val (.int ((i0 &&& (2147483647 : Int32)) % (5 : Int32))), .val (.int (97 : Int32)), .val (.ref a_DeleteAction_NO_ACTION), .val (.ref a_DeletionRule_RESTRICT), .val (.ref a174), .val (.ref a178), .val (.ref a_DeleteAction_NO_ACTION)] [])
    refine go (fun _ => XS.aload X190.here hx rfl (hb hby at_132) rfl rfl) ?_
    show Ends p e below s _ _ _ T190 (mkF m 134 #[.val (.int i0), .val (.int ((i0 &&& (2147483647 : Int32)) % (5 : Int32))), .val (.int (97 : Int32)), .val (.ref a_DeleteAction_NO_ACTION), .val (.ref a_DeletionRule_RESTRICT), .val (.ref a174), .val (.ref a178), .val (.ref a_DeleteAction_NO_ACTION)] [(.ref a_DeleteAction_NO_ACTION)])
    refine cVirt X190 hx hZ hown (by rw [hml]; rfl) e190 (hw _ (List.mem_of_getElem? (i := 71) rfl)) (hw _ (List.mem_of_getElem? (i := 72) rfl)) (hw _ (List.mem_of_getElem? (i := 74) rfl)) (hw _ (List.mem_of_getElem? (i := 73) rfl)) (hw _ (List.mem_of_getElem? (i := 2) rfl)) (hw _ (List.mem_of_getElem? (i := 75) rfl)) (notFace_of_selects (args := #[]) (mvT hZ (hw _ (List.mem_of_getElem? (i := 74) rfl)))) a_DeleteAction_NO_ACTION (Exa.ext O191 ex_3) [] [] rfl (rm_rule hw a_DeleteAction_NO_ACTION a_DeletionRule_RESTRICT _ (Fld.ext O191 ft_46)) (hb hby at_134) rfl (lenOf pd_14 rfl) (by decide) (by decide) (Nat.le_of_ble_eq_true rfl) (by decide) (by decide) ?_
    rintro v192 T192 h192 L192 X192 e192 ⟨rfl, N192, rfl⟩
    have N192a := Fr.app N190a N192
    show Ends p e below s _ _ _ T192 (mkF m 137 #[.val (.int i0), .val (.int ((i0 &&& (2147483647 : Int32)) % (5 : Int32))), .val (.int (97 : Int32)), .val (.ref a_DeleteAction_NO_ACTION), .val (.ref a_DeletionRule_RESTRICT), .val (.ref a174), .val (.ref a178), .val (.ref a_DeleteAction_NO_ACTION)] [(.ref a_DeletionRule_RESTRICT)])
    refine go (fun _ => XS.aload X192.here hx rfl (hb hby at_137) rfl rfl) ?_
    show Ends p e below s _ _ _ T192 (mkF m 139 #[.val (.int i0), .val (.int ((i0 &&& (2147483647 : Int32)) % (5 : Int32))), .val (.int (97 : Int32)), .val (.ref a_DeleteAction_NO_ACTION), .val (.ref a_DeletionRule_RESTRICT), .val (.ref a174), .val (.ref a178), .val (.ref a_DeleteAction_NO_ACTION)] [(.ref a_DeletionRule_RESTRICT), (.ref a_DeletionRule_RESTRICT)])
    refine go (fun _ => XT.acmpNo X192.here hx rfl (hb hby at_139) rfl rfl rfl (XT.aa_ne_f (rfl : ((.ref a_DeletionRule_RESTRICT) : Value) = (.ref a_DeletionRule_RESTRICT)))) ?_
    show Ends p e below s _ _ _ T192 (mkF m 142 #[.val (.int i0), .val (.int ((i0 &&& (2147483647 : Int32)) % (5 : Int32))), .val (.int (97 : Int32)), .val (.ref a_DeleteAction_NO_ACTION), .val (.ref a_DeletionRule_RESTRICT), .val (.ref a174), .val (.ref a178), .val (.ref a_DeleteAction_NO_ACTION)] [])
    refine go (fun _ => XT.iconstV X192.here hx rfl (1 : Int32) (hb hby at_142) (by decide)) ?_
    show Ends p e below s _ _ _ T192 (mkF m 143 #[.val (.int i0), .val (.int ((i0 &&& (2147483647 : Int32)) % (5 : Int32))), .val (.int (97 : Int32)), .val (.ref a_DeleteAction_NO_ACTION), .val (.ref a_DeletionRule_RESTRICT), .val (.ref a174), .val (.ref a178), .val (.ref a_DeleteAction_NO_ACTION)] [(.int (1 : Int32))])
    refine go (fun _ => XS.goto X192.here hx rfl (pc0 := 143) (pc' := 147) rfl (hb hby at_143) (by decide) (by decide)) ?_
    show Ends p e below s _ _ _ T192 (mkF m 147 #[.val (.int i0), .val (.int ((i0 &&& (2147483647 : Int32)) % (5 : Int32))), .val (.int (97 : Int32)), .val (.ref a_DeleteAction_NO_ACTION), .val (.ref a_DeletionRule_RESTRICT), .val (.ref a174), .val (.ref a178), .val (.ref a_DeleteAction_NO_ACTION)] [(.int (1 : Int32))])
    exact endN X192 hx hlk hret (by simp) (hb hby at_147) e192 ⟨rfl, N192a⟩ (by decide) (by decide)
  · refine go (fun _ => XS.ifYes X0.here hx rfl (pc0 := 8) (pc' := 26) rfl (hb hby at_8) rfl (XT.i0_ne_t c8_171) (by decide) (by decide)) ?_
    show Ends p e below s _ _ _ T0 (mkF m 26 #[.val (.int i0), .val (.int ((i0 &&& (2147483647 : Int32)) % (5 : Int32))), .unset, .unset, .unset, .unset, .unset, .unset] [])
    refine go (fun _ => XS.iloadN X0.here hx rfl (hb hby at_26) rfl) ?_
    show Ends p e below s _ _ _ T0 (mkF m 27 #[.val (.int i0), .val (.int ((i0 &&& (2147483647 : Int32)) % (5 : Int32))), .unset, .unset, .unset, .unset, .unset, .unset] [(.int ((i0 &&& (2147483647 : Int32)) % (5 : Int32)))])
    refine go (fun _ => XT.iconstV X0.here hx rfl (1 : Int32) (hb hby at_27) (by decide)) ?_
    show Ends p e below s _ _ _ T0 (mkF m 28 #[.val (.int i0), .val (.int ((i0 &&& (2147483647 : Int32)) % (5 : Int32))), .unset, .unset, .unset, .unset, .unset, .unset] [(.int (1 : Int32)), (.int ((i0 &&& (2147483647 : Int32)) % (5 : Int32)))])
    by_cases c28_193 : ((i0 &&& (2147483647 : Int32)) % (5 : Int32)) = (1 : Int32)
    · refine go (fun _ => XS.icmpNo X0.here hx rfl (hb hby at_28) rfl (XT.ii_ne_f c28_193)) ?_
      show Ends p e below s _ _ _ T0 (mkF m 31 #[.val (.int i0), .val (.int ((i0 &&& (2147483647 : Int32)) % (5 : Int32))), .unset, .unset, .unset, .unset, .unset, .unset] [])
      refine go (fun _ => XT.bipushV X0.here hx rfl (114 : Int32) (hb hby at_31) (by decide)) ?_
      show Ends p e below s _ _ _ T0 (mkF m 33 #[.val (.int i0), .val (.int ((i0 &&& (2147483647 : Int32)) % (5 : Int32))), .unset, .unset, .unset, .unset, .unset, .unset] [(.int (114 : Int32))])
      refine go (fun _ => XS.istoreN X0.here hx rfl (hb hby at_33) rfl (l' := #[.val (.int i0), .val (.int ((i0 &&& (2147483647 : Int32)) % (5 : Int32))), .val (.int (114 : Int32)), .unset, .unset, .unset, .unset, .unset]) rfl) ?_
      show Ends p e below s _ _ _ T0 (mkF m 34 #[.val (.int i0), .val (.int ((i0 &&& (2147483647 : Int32)) % (5 : Int32))), .val (.int (114 : Int32)), .unset, .unset, .unset, .unset, .unset] [])
      obtain ⟨T194, X194, e194, s194⟩ := getS2 X0 hx hZ hown (host := "") (Or.inl (hw _ (List.mem_of_getElem? (i := 81) rfl))) Via.refl e0 (Sta.ext O0 ft_15) (g := (mkF m 34 #[.val (.int i0), .val (.int ((i0 &&& (2147483647 : Int32)) % (5 : Int32))), .val (.int (114 : Int32)), .unset, .unset, .unset, .unset, .unset] [])) rfl (hb hby at_34)
      refine go s194 ?_
      show Ends p e below s _ _ _ T194 (mkF m 37 #[.val (.int i0), .val (.int ((i0 &&& (2147483647 : Int32)) % (5 : Int32))), .val (.int (114 : Int32)), .unset, .unset, .unset, .unset, .unset] [(.ref a_DeleteAction_RESTRICT)])
      refine go (fun _ => XS.astoreN X194.here hx rfl (hb hby at_37) rfl rfl (l' := #[.val (.int i0), .val (.int ((i0 &&& (2147483647 : Int32)) % (5 : Int32))), .val (.int (114 : Int32)), .val (.ref a_DeleteAction_RESTRICT), .unset, .unset, .unset, .unset]) rfl) ?_
      show Ends p e below s _ _ _ T194 (mkF m 38 #[.val (.int i0), .val (.int ((i0 &&& (2147483647 : Int32)) % (5 : Int32))), .val (.int (114 : Int32)), .val (.ref a_DeleteAction_RESTRICT), .unset, .unset, .unset, .unset] [])
      obtain ⟨T195, X195, e195, s195⟩ := getS2 X194 hx hZ hown (host := "") (Or.inl (hw _ (List.mem_of_getElem? (i := 4) rfl))) Via.refl e194 (Sta.ext O0 ft_5) (g := (mkF m 38 #[.val (.int i0), .val (.int ((i0 &&& (2147483647 : Int32)) % (5 : Int32))), .val (.int (114 : Int32)), .val (.ref a_DeleteAction_RESTRICT), .unset, .unset, .unset, .unset] [])) rfl (hb hby at_38)
      refine go s195 ?_
      show Ends p e below s _ _ _ T195 (mkF m 41 #[.val (.int i0), .val (.int ((i0 &&& (2147483647 : Int32)) % (5 : Int32))), .val (.int (114 : Int32)), .val (.ref a_DeleteAction_RESTRICT), .unset, .unset, .unset, .unset] [(.ref a_DeletionRule_RESTRICT)])
      refine go (fun _ => XS.astore X195.here hx rfl (hb hby at_41) rfl rfl (l' := #[.val (.int i0), .val (.int ((i0 &&& (2147483647 : Int32)) % (5 : Int32))), .val (.int (114 : Int32)), .val (.ref a_DeleteAction_RESTRICT), .val (.ref a_DeletionRule_RESTRICT), .unset, .unset, .unset]) rfl) ?_
      show Ends p e below s _ _ _ T195 (mkF m 43 #[.val (.int i0), .val (.int ((i0 &&& (2147483647 : Int32)) % (5 : Int32))), .val (.int (114 : Int32)), .val (.ref a_DeleteAction_RESTRICT), .val (.ref a_DeletionRule_RESTRICT), .unset, .unset, .unset] [])
      refine go (fun _ => XS.goto X195.here hx rfl (pc0 := 43) (pc' := 98) rfl (hb hby at_43) (by decide) (by decide)) ?_
      show Ends p e below s _ _ _ T195 (mkF m 98 #[.val (.int i0), .val (.int ((i0 &&& (2147483647 : Int32)) % (5 : Int32))), .val (.int (114 : Int32)), .val (.ref a_DeleteAction_RESTRICT), .val (.ref a_DeletionRule_RESTRICT), .unset, .unset, .unset] [])
      refine go (fun _ => XT.iconstV X195.here hx rfl (1 : Int32) (hb hby at_98) (by decide)) ?_
      show Ends p e below s _ _ _ T195 (mkF m 99 #[.val (.int i0), .val (.int ((i0 &&& (2147483647 : Int32)) % (5 : Int32))), .val (.int (114 : Int32)), .val (.ref a_DeleteAction_RESTRICT), .val (.ref a_DeletionRule_RESTRICT), .unset, .unset, .unset] [(.int (1 : Int32))])
      obtain ⟨T196, h196, k196, X196, e196, E196, A196, s196⟩ := newP X195 hx hZ (hw _ (List.mem_of_getElem? (i := 7) rfl)) e195 (g := (mkF m 99 #[.val (.int i0), .val (.int ((i0 &&& (2147483647 : Int32)) % (5 : Int32))), .val (.int (114 : Int32)), .val (.ref a_DeleteAction_RESTRICT), .val (.ref a_DeletionRule_RESTRICT), .unset, .unset, .unset] [(.int (1 : Int32))])) rfl (hb hby at_99) rfl (by decide) (cap := 1) (by decide) (by decide) (by decide) (by decide)
      obtain ⟨a196, g196⟩ : ∃ z : Addr, z = h0.size := ⟨_, rfl⟩
      have f196 : Z.heap.size ≤ a196 := by rw [g196]; exact (O0).1
      rw [← g196] at A196 s196
      have O197 : Ext Z.heap h196 := xx O0 E196
      have V196 : Arv Z h196 a196 k196 .char (1 : Int32) [(.int (0 : Int32))] (.int 0) := Arv.pad (Arv.new A196 (by decide)) (pad_rep [] _ 1)
      refine go s196 ?_
      show Ends p e below s _ _ _ T196 (mkF m 101 #[.val (.int i0), .val (.int ((i0 &&& (2147483647 : Int32)) % (5 : Int32))), .val (.int (114 : Int32)), .val (.ref a_DeleteAction_RESTRICT), .val (.ref a_DeletionRule_RESTRICT), .unset, .unset, .unset] [(.ref a196)])
      refine go (fun _ => XS.astore X196.here hx rfl (hb hby at_101) rfl rfl (l' := #[.val (.int i0), .val (.int ((i0 &&& (2147483647 : Int32)) % (5 : Int32))), .val (.int (114 : Int32)), .val (.ref a_DeleteAction_RESTRICT), .val (.ref a_DeletionRule_RESTRICT), .val (.ref a196), .unset, .unset]) rfl) ?_
      show Ends p e below s _ _ _ T196 (mkF m 103 #[.val (.int i0), .val (.int ((i0 &&& (2147483647 : Int32)) % (5 : Int32))), .val (.int (114 : Int32)), .val (.ref a_DeleteAction_RESTRICT), .val (.ref a_DeletionRule_RESTRICT), .val (.ref a196), .unset, .unset] [])
      refine go (fun _ => XS.aload X196.here hx rfl (hb hby at_103) rfl rfl) ?_
      show Ends p e below s _ _ _ T196 (mkF m 105 #[.val (.int i0), .val (.int ((i0 &&& (2147483647 : Int32)) % (5 : Int32))), .val (.int (114 : Int32)), .val (.ref a_DeleteAction_RESTRICT), .val (.ref a_DeletionRule_RESTRICT), .val (.ref a196), .unset, .unset] [(.ref a196)])
      refine go (fun _ => XT.iconstV X196.here hx rfl (0 : Int32) (hb hby at_105) (by decide)) ?_
      show Ends p e below s _ _ _ T196 (mkF m 106 #[.val (.int i0), .val (.int ((i0 &&& (2147483647 : Int32)) % (5 : Int32))), .val (.int (114 : Int32)), .val (.ref a_DeleteAction_RESTRICT), .val (.ref a_DeletionRule_RESTRICT), .val (.ref a196), .unset, .unset] [(.int (0 : Int32)), (.ref a196)])
      refine go (fun _ => XS.iloadN X196.here hx rfl (hb hby at_106) rfl) ?_
      show Ends p e below s _ _ _ T196 (mkF m 107 #[.val (.int i0), .val (.int ((i0 &&& (2147483647 : Int32)) % (5 : Int32))), .val (.int (114 : Int32)), .val (.ref a_DeleteAction_RESTRICT), .val (.ref a_DeletionRule_RESTRICT), .val (.ref a196), .unset, .unset] [(.int (114 : Int32)), (.int (0 : Int32)), (.ref a196)])
      obtain ⟨c198, A198, q198, S198, M198, H198, G198⟩ := id V196
      obtain ⟨T198, h198, X198, e198, W198, s198⟩ := stC X196 hx hZ e196 A198 (j := (0 : Int32)) (inb_of S198 (by decide)) (g := (mkF m 107 #[.val (.int i0), .val (.int ((i0 &&& (2147483647 : Int32)) % (5 : Int32))), .val (.int (114 : Int32)), .val (.ref a_DeleteAction_RESTRICT), .val (.ref a_DeletionRule_RESTRICT), .val (.ref a196), .unset, .unset] [(.int (114 : Int32)), (.int (0 : Int32)), (.ref a196)])) rfl rfl (hb hby at_107)
      have r198 : nar .char (114 : Int32) = (114 : Int32) := (by decide)
      rw [r198] at W198
      have N198 := Fr.snoc X198 (Fr.nil _) f196
      have O199 : Ext Z.heap h198 := xw O197 W198 f196
      have V198 : Arv Z h198 a196 k196 .char (1 : Int32) [(.int (114 : Int32))] (.int 0) := Arv.set A198 q198 S198 M198 H198 G198 (by first | rfl | exact fits_nar_char (114 : Int32) | (rw [← r198]; exact fits_nar_char (114 : Int32))) W198 0 (by decide) (by decide)
      refine go s198 ?_
      show Ends p e below s _ _ _ T198 (mkF m 108 #[.val (.int i0), .val (.int ((i0 &&& (2147483647 : Int32)) % (5 : Int32))), .val (.int (114 : Int32)), .val (.ref a_DeleteAction_RESTRICT), .val (.ref a_DeletionRule_RESTRICT), .val (.ref a196), .unset, .unset] [])
      obtain ⟨T200, h200, X200, e200, E200, A200, D200, U200, s200⟩ := newO X198 hx hZ hown (hw _ (List.mem_of_getElem? (i := 8) rfl)) (hw _ (List.mem_of_getElem? (i := 9) rfl)) (hw _ (List.mem_of_getElem? (i := 10) rfl)) e198 (g := (mkF m 108 #[.val (.int i0), .val (.int ((i0 &&& (2147483647 : Int32)) % (5 : Int32))), .val (.int (114 : Int32)), .val (.ref a_DeleteAction_RESTRICT), .val (.ref a_DeletionRule_RESTRICT), .val (.ref a196), .unset, .unset] [])) rfl (hb hby at_108) (by decide) (by decide)
      obtain ⟨a200, g200⟩ : ∃ z : Addr, z = h198.size := ⟨_, rfl⟩
      have n201 : a196 ≠ a200 := fun q => absurd (V198.lt) (by rw [q, g200]; exact Nat.lt_irrefl _)
      have f200 : Z.heap.size ≤ a200 := by rw [g200]; exact (O199).1
      rw [← g200] at A200 D200 U200 s200
      have O202 : Ext Z.heap h200 := xx O199 E200
      refine go s200 ?_
      show Ends p e below s _ _ _ T200 (mkF m 111 #[.val (.int i0), .val (.int ((i0 &&& (2147483647 : Int32)) % (5 : Int32))), .val (.int (114 : Int32)), .val (.ref a_DeleteAction_RESTRICT), .val (.ref a_DeletionRule_RESTRICT), .val (.ref a196), .unset, .unset] [(.ref a200)])
      refine go (fun _ => XS.dup X200.here hx rfl (hb hby at_111) rfl rfl) ?_
      show Ends p e below s _ _ _ T200 (mkF m 112 #[.val (.int i0), .val (.int ((i0 &&& (2147483647 : Int32)) % (5 : Int32))), .val (.int (114 : Int32)), .val (.ref a_DeleteAction_RESTRICT), .val (.ref a_DeletionRule_RESTRICT), .val (.ref a196), .unset, .unset] [(.ref a200), (.ref a200)])
      refine go (fun _ => XS.aload X200.here hx rfl (hb hby at_112) rfl rfl) ?_
      show Ends p e below s _ _ _ T200 (mkF m 114 #[.val (.int i0), .val (.int ((i0 &&& (2147483647 : Int32)) % (5 : Int32))), .val (.int (114 : Int32)), .val (.ref a_DeleteAction_RESTRICT), .val (.ref a_DeletionRule_RESTRICT), .val (.ref a196), .unset, .unset] [(.ref a196), (.ref a200), (.ref a200)])
      have F203 := (D200 (Or.inr (hw _ (List.mem_of_getElem? (i := 36) rfl))) (ty := (.array .byte)) (by decide))
      have F204 := (D200 (Or.inr (hw _ (List.mem_of_getElem? (i := 34) rfl))) (ty := .byte) (by decide))
      have F205 := (Arv.ext V198 E200)
      refine cInit X200 hx hZ hown (by rw [hml]; rfl) e200 (hw _ (List.mem_of_getElem? (i := 11) rfl)) (hw _ (List.mem_of_getElem? (i := 12) rfl)) (hw _ (List.mem_of_getElem? (i := 10) rfl)) (hw _ (List.mem_of_getElem? (i := 13) rfl)) a200 [(.ref a196)] [(.ref a200)] rfl (rm_new1_1 hw a200 a196 k196 (114 : Int32) _ O202 f200 (Ne.symm n201) A200 F203 F204 cz SCS hcz F205 (by decide)) (hb hby at_114) rfl (lenOf pd_12 rfl) rfl (by decide) (by decide) (Nat.le_of_ble_eq_true rfl) (by decide) (by decide) ?_
      rintro v206 T206 h206 L206 X206 e206 ⟨b206, k206, rfl, N206, K206, g206, Fv206, Fc206, V206⟩
      have N206a := Fr.app N198 N206
      have n207 : a196 ≠ b206 := Nat.ne_of_lt (Nat.lt_of_lt_of_le (F205.lt) g206)
      have n208 : a200 ≠ b206 := Nat.ne_of_lt (Nat.lt_of_lt_of_le (A200.lt) g206)
      have f209 : Z.heap.size ≤ b206 := Nat.le_trans (O202).1 g206
      have O210 : Ext Z.heap h206 := xk O202 K206 (allS f200 all0)
      have Vl206 : Arv Z h206 b206 k206 .byte (1 : Int32) [(.int (114 : Int32))] (.int 0) := V206
      show Ends p e below s _ _ _ T206 (mkF m 117 #[.val (.int i0), .val (.int ((i0 &&& (2147483647 : Int32)) % (5 : Int32))), .val (.int (114 : Int32)), .val (.ref a_DeleteAction_RESTRICT), .val (.ref a_DeletionRule_RESTRICT), .val (.ref a196), .unset, .unset] [(.ref a200)])
      refine go (fun _ => XS.astore X206.here hx rfl (hb hby at_117) rfl rfl (l' := #[.val (.int i0), .val (.int ((i0 &&& (2147483647 : Int32)) % (5 : Int32))), .val (.int (114 : Int32)), .val (.ref a_DeleteAction_RESTRICT), .val (.ref a_DeletionRule_RESTRICT), .val (.ref a196), .val (.ref a200), .unset]) rfl) ?_
      show Ends p e below s _ _ _ T206 (mkF m 119 #[.val (.int i0), .val (.int ((i0 &&& (2147483647 : Int32)) % (5 : Int32))), .val (.int (114 : Int32)), .val (.ref a_DeleteAction_RESTRICT), .val (.ref a_DeletionRule_RESTRICT), .val (.ref a196), .val (.ref a200), .unset] [])
      refine go (fun _ => XS.aload X206.here hx rfl (hb hby at_119) rfl rfl) ?_
      show Ends p e below s _ _ _ T206 (mkF m 121 #[.val (.int i0), .val (.int ((i0 &&& (2147483647 : Int32)) % (5 : Int32))), .val (.int (114 : Int32)), .val (.ref a_DeleteAction_RESTRICT), .val (.ref a_DeletionRule_RESTRICT), .val (.ref a196), .val (.ref a200), .unset] [(.ref a200)])
      have F211 := (Exa.keep A200 K206)
      refine cStat X206 hx hZ hown (by rw [hml]; rfl) e206 (hw _ (List.mem_of_getElem? (i := 37) rfl)) (hw _ (List.mem_of_getElem? (i := 38) rfl)) (hw _ (List.mem_of_getElem? (i := 2) rfl)) (hw _ (List.mem_of_getElem? (i := 39) rfl)) [(.ref a200)] [] rfl (rm_from_114 hw a200 b206 k206 a_DeleteAction_NO_ACTION a_DeletionRule_RESTRICT a_DeleteAction__VALUES a_DeleteAction_RESTRICT a_DeleteAction_CASCADE a_DeleteAction_SET_NULL a_DeleteAction_SET_DEFAULT a_DeleteAction_NO_ACTION_catalogCode a_DeleteAction_NO_ACTION_catalogCode_value a_DeletionRule_DETACH a_DeleteAction_RESTRICT_catalogCode a_DeleteAction_RESTRICT_catalogCode_value a_DeleteAction_CASCADE_catalogCode a_DeleteAction_CASCADE_catalogCode_value a_DeleteAction_SET_NULL_catalogCode a_DeleteAction_SET_NULL_catalogCode_value a_DeleteAction_SET_DEFAULT_catalogCode a_DeleteAction_SET_DEFAULT_catalogCode_value a_DeletionRule_CASCADE k_a_DeleteAction__VALUES k_a_DeleteAction_NO_ACTION_catalogCode_value k_a_DeleteAction_RESTRICT_catalogCode_value k_a_DeleteAction_CASCADE_catalogCode_value k_a_DeleteAction_SET_NULL_catalogCode_value k_a_DeleteAction_SET_DEFAULT_catalogCode_value _ O210 cz SCS hcz ft_2 ft_5 ft_8 ft_15 ft_20 ft_25 ft_30 ft_48 ft_101 ex_3 ex_6 ex_10 ex_16 ex_21 ex_26 ex_31 ex_36 ex_49 ex_52 ex_63 ex_74 ex_89 ex_102 ft_35 ft_38 ft_40 ft_46 ft_51 ft_54 ft_56 ft_62 ft_65 ft_67 ft_73 ft_76 ft_78 ft_84 ft_86 ft_88 ft_91 ft_93 ft_99 ft_104 av_105 av_106 av_107 av_108 av_109 av_110 f200 F211 Fv206 Fc206 Vl206) (hb hby at_121) rfl (lenOf pd_13 rfl) (by decide) (by decide) (Nat.le_of_ble_eq_true rfl) (by decide) (by decide) ?_
      rintro v212 T212 h212 L212 X212 e212 ⟨rfl, N212, K212⟩
      have N212a := Fr.app N206a N212
      have O213 : Ext Z.heap h212 := xk O210 K212 all0
      show Ends p e below s _ _ _ T212 (mkF m 124 #[.val (.int i0), .val (.int ((i0 &&& (2147483647 : Int32)) % (5 : Int32))), .val (.int (114 : Int32)), .val (.ref a_DeleteAction_RESTRICT), .val (.ref a_DeletionRule_RESTRICT), .val (.ref a196), .val (.ref a200), .unset] [(.ref a_DeleteAction_RESTRICT)])
      refine go (fun _ => XS.astore X212.here hx rfl (hb hby at_124) rfl rfl (l' := #[.val (.int i0), .val (.int ((i0 &&& (2147483647 : Int32)) % (5 : Int32))), .val (.int (114 : Int32)), .val (.ref a_DeleteAction_RESTRICT), .val (.ref a_DeletionRule_RESTRICT), .val (.ref a196), .val (.ref a200), .val (.ref a_DeleteAction_RESTRICT)]) rfl) ?_
      show Ends p e below s _ _ _ T212 (mkF m 126 #[.val (.int i0), .val (.int ((i0 &&& (2147483647 : Int32)) % (5 : Int32))), .val (.int (114 : Int32)), .val (.ref a_DeleteAction_RESTRICT), .val (.ref a_DeletionRule_RESTRICT), .val (.ref a196), .val (.ref a200), .val (.ref a_DeleteAction_RESTRICT)] [])
      refine go (fun _ => XS.aload X212.here hx rfl (hb hby at_126) rfl rfl) ?_
      show Ends p e below s _ _ _ T212 (mkF m 128 #[.val (.int i0), .val (.int ((i0 &&& (2147483647 : Int32)) % (5 : Int32))), .val (.int (114 : Int32)), .val (.ref a_DeleteAction_RESTRICT), .val (.ref a_DeletionRule_RESTRICT), .val (.ref a196), .val (.ref a200), .val (.ref a_DeleteAction_RESTRICT)] [(.ref a_DeleteAction_RESTRICT)])
      refine go (fun _ => XS.aloadN X212.here hx rfl (hb hby at_128) rfl rfl) ?_
      show Ends p e below s _ _ _ T212 (mkF m 129 #[.val (.int i0), .val (.int ((i0 &&& (2147483647 : Int32)) % (5 : Int32))), .val (.int (114 : Int32)), .val (.ref a_DeleteAction_RESTRICT), .val (.ref a_DeletionRule_RESTRICT), .val (.ref a196), .val (.ref a200), .val (.ref a_DeleteAction_RESTRICT)] [(.ref a_DeleteAction_RESTRICT), (.ref a_DeleteAction_RESTRICT)])
      refine go (fun _ => XT.acmpNo X212.here hx rfl (hb hby at_129) rfl rfl rfl (XT.aa_ne_f (rfl : ((.ref a_DeleteAction_RESTRICT) : Value) = (.ref a_DeleteAction_RESTRICT)))) ?_
      show Ends p e below s _ _ _ T212 (mkF m 132 #[.val (.int i0), .val (.int ((i0 &&& (2147483647 : Int32)) % (5 : Int32))), .val (.int (114 : Int32)), .val (.ref a_DeleteAction_RESTRICT), .val (.ref a_DeletionRule_RESTRICT), .val (.ref a196), .val (.ref a200), .val (.ref a_DeleteAction_RESTRICT)] [])
      refine go (fun _ => XS.aload X212.here hx rfl (hb hby at_132) rfl rfl) ?_
      show Ends p e below s _ _ _ T212 (mkF m 134 #[.val (.int i0), .val (.int ((i0 &&& (2147483647 : Int32)) % (5 : Int32))), .val (.int (114 : Int32)), .val (.ref a_DeleteAction_RESTRICT), .val (.ref a_DeletionRule_RESTRICT), .val (.ref a196), .val (.ref a200), .val (.ref a_DeleteAction_RESTRICT)] [(.ref a_DeleteAction_RESTRICT)])
      refine cVirt X212 hx hZ hown (by rw [hml]; rfl) e212 (hw _ (List.mem_of_getElem? (i := 71) rfl)) (hw _ (List.mem_of_getElem? (i := 72) rfl)) (hw _ (List.mem_of_getElem? (i := 74) rfl)) (hw _ (List.mem_of_getElem? (i := 73) rfl)) (hw _ (List.mem_of_getElem? (i := 2) rfl)) (hw _ (List.mem_of_getElem? (i := 75) rfl)) (notFace_of_selects (args := #[]) (mvT hZ (hw _ (List.mem_of_getElem? (i := 74) rfl)))) a_DeleteAction_RESTRICT (Exa.ext O213 ex_16) [] [] rfl (rm_rule hw a_DeleteAction_RESTRICT a_DeletionRule_RESTRICT _ (Fld.ext O213 ft_86)) (hb hby at_134) rfl (lenOf pd_14 rfl) (by decide) (by decide) (Nat.le_of_ble_eq_true rfl) (by decide) (by decide) ?_
      rintro v214 T214 h214 L214 X214 e214 ⟨rfl, N214, rfl⟩
      have N214a := Fr.app N212a N214
      show Ends p e below s _ _ _ T214 (mkF m 137 #[.val (.int i0), .val (.int ((i0 &&& (2147483647 : Int32)) % (5 : Int32))), .val (.int (114 : Int32)), .val (.ref a_DeleteAction_RESTRICT), .val (.ref a_DeletionRule_RESTRICT), .val (.ref a196), .val (.ref a200), .val (.ref a_DeleteAction_RESTRICT)] [(.ref a_DeletionRule_RESTRICT)])
      refine go (fun _ => XS.aload X214.here hx rfl (hb hby at_137) rfl rfl) ?_
      show Ends p e below s _ _ _ T214 (mkF m 139 #[.val (.int i0), .val (.int ((i0 &&& (2147483647 : Int32)) % (5 : Int32))), .val (.int (114 : Int32)), .val (.ref a_DeleteAction_RESTRICT), .val (.ref a_DeletionRule_RESTRICT), .val (.ref a196), .val (.ref a200), .val (.ref a_DeleteAction_RESTRICT)] [(.ref a_DeletionRule_RESTRICT), (.ref a_DeletionRule_RESTRICT)])
      refine go (fun _ => XT.acmpNo X214.here hx rfl (hb hby at_139) rfl rfl rfl (XT.aa_ne_f (rfl : ((.ref a_DeletionRule_RESTRICT) : Value) = (.ref a_DeletionRule_RESTRICT)))) ?_
      show Ends p e below s _ _ _ T214 (mkF m 142 #[.val (.int i0), .val (.int ((i0 &&& (2147483647 : Int32)) % (5 : Int32))), .val (.int (114 : Int32)), .val (.ref a_DeleteAction_RESTRICT), .val (.ref a_DeletionRule_RESTRICT), .val (.ref a196), .val (.ref a200), .val (.ref a_DeleteAction_RESTRICT)] [])
      refine go (fun _ => XT.iconstV X214.here hx rfl (1 : Int32) (hb hby at_142) (by decide)) ?_
      show Ends p e below s _ _ _ T214 (mkF m 143 #[.val (.int i0), .val (.int ((i0 &&& (2147483647 : Int32)) % (5 : Int32))), .val (.int (114 : Int32)), .val (.ref a_DeleteAction_RESTRICT), .val (.ref a_DeletionRule_RESTRICT), .val (.ref a196), .val (.ref a200), .val (.ref a_DeleteAction_RESTRICT)] [(.int (1 : Int32))])
      refine go (fun _ => XS.goto X214.here hx rfl (pc0 := 143) (pc' := 147) rfl (hb hby at_143) (by decide) (by decide)) ?_
      show Ends p e below s _ _ _ T214 (mkF m 147 #[.val (.int i0), .val (.int ((i0 &&& (2147483647 : Int32)) % (5 : Int32))), .val (.int (114 : Int32)), .val (.ref a_DeleteAction_RESTRICT), .val (.ref a_DeletionRule_RESTRICT), .val (.ref a196), .val (.ref a200), .val (.ref a_DeleteAction_RESTRICT)] [(.int (1 : Int32))])
      exact endN X214 hx hlk hret (by simp) (hb hby at_147) e214 ⟨rfl, N214a⟩ (by decide) (by decide)
    · refine go (fun _ => XS.icmpYes X0.here hx rfl (pc0 := 28) (pc' := 46) rfl (hb hby at_28) rfl (XT.ii_ne_t c28_193) (by decide) (by decide)) ?_
      show Ends p e below s _ _ _ T0 (mkF m 46 #[.val (.int i0), .val (.int ((i0 &&& (2147483647 : Int32)) % (5 : Int32))), .unset, .unset, .unset, .unset, .unset, .unset] [])
      refine go (fun _ => XS.iloadN X0.here hx rfl (hb hby at_46) rfl) ?_
      show Ends p e below s _ _ _ T0 (mkF m 47 #[.val (.int i0), .val (.int ((i0 &&& (2147483647 : Int32)) % (5 : Int32))), .unset, .unset, .unset, .unset, .unset, .unset] [(.int ((i0 &&& (2147483647 : Int32)) % (5 : Int32)))])
      refine go (fun _ => XT.iconstV X0.here hx rfl (2 : Int32) (hb hby at_47) (by decide)) ?_
      show Ends p e below s _ _ _ T0 (mkF m 48 #[.val (.int i0), .val (.int ((i0 &&& (2147483647 : Int32)) % (5 : Int32))), .unset, .unset, .unset, .unset, .unset, .unset] [(.int (2 : Int32)), (.int ((i0 &&& (2147483647 : Int32)) % (5 : Int32)))])
      by_cases c48_215 : ((i0 &&& (2147483647 : Int32)) % (5 : Int32)) = (2 : Int32)
      · refine go (fun _ => XS.icmpNo X0.here hx rfl (hb hby at_48) rfl (XT.ii_ne_f c48_215)) ?_
        show Ends p e below s _ _ _ T0 (mkF m 51 #[.val (.int i0), .val (.int ((i0 &&& (2147483647 : Int32)) % (5 : Int32))), .unset, .unset, .unset, .unset, .unset, .unset] [])
        refine go (fun _ => XT.bipushV X0.here hx rfl (99 : Int32) (hb hby at_51) (by decide)) ?_
        show Ends p e below s _ _ _ T0 (mkF m 53 #[.val (.int i0), .val (.int ((i0 &&& (2147483647 : Int32)) % (5 : Int32))), .unset, .unset, .unset, .unset, .unset, .unset] [(.int (99 : Int32))])
        refine go (fun _ => XS.istoreN X0.here hx rfl (hb hby at_53) rfl (l' := #[.val (.int i0), .val (.int ((i0 &&& (2147483647 : Int32)) % (5 : Int32))), .val (.int (99 : Int32)), .unset, .unset, .unset, .unset, .unset]) rfl) ?_
        show Ends p e below s _ _ _ T0 (mkF m 54 #[.val (.int i0), .val (.int ((i0 &&& (2147483647 : Int32)) % (5 : Int32))), .val (.int (99 : Int32)), .unset, .unset, .unset, .unset, .unset] [])
        obtain ⟨T216, X216, e216, s216⟩ := getS2 X0 hx hZ hown (host := "") (Or.inl (hw _ (List.mem_of_getElem? (i := 83) rfl))) Via.refl e0 (Sta.ext O0 ft_20) (g := (mkF m 54 #[.val (.int i0), .val (.int ((i0 &&& (2147483647 : Int32)) % (5 : Int32))), .val (.int (99 : Int32)), .unset, .unset, .unset, .unset, .unset] [])) rfl (hb hby at_54)
        refine go s216 ?_
        show Ends p e below s _ _ _ T216 (mkF m 57 #[.val (.int i0), .val (.int ((i0 &&& (2147483647 : Int32)) % (5 : Int32))), .val (.int (99 : Int32)), .unset, .unset, .unset, .unset, .unset] [(.ref a_DeleteAction_CASCADE)])
        refine go (fun _ => XS.astoreN X216.here hx rfl (hb hby at_57) rfl rfl (l' := #[.val (.int i0), .val (.int ((i0 &&& (2147483647 : Int32)) % (5 : Int32))), .val (.int (99 : Int32)), .val (.ref a_DeleteAction_CASCADE), .unset, .unset, .unset, .unset]) rfl) ?_
        show Ends p e below s _ _ _ T216 (mkF m 58 #[.val (.int i0), .val (.int ((i0 &&& (2147483647 : Int32)) % (5 : Int32))), .val (.int (99 : Int32)), .val (.ref a_DeleteAction_CASCADE), .unset, .unset, .unset, .unset] [])
        obtain ⟨T217, X217, e217, s217⟩ := getS2 X216 hx hZ hown (host := "") (Or.inl (hw _ (List.mem_of_getElem? (i := 84) rfl))) Via.refl e216 (Sta.ext O0 ft_101) (g := (mkF m 58 #[.val (.int i0), .val (.int ((i0 &&& (2147483647 : Int32)) % (5 : Int32))), .val (.int (99 : Int32)), .val (.ref a_DeleteAction_CASCADE), .unset, .unset, .unset, .unset] [])) rfl (hb hby at_58)
        refine go s217 ?_
        show Ends p e below s _ _ _ T217 (mkF m 61 #[.val (.int i0), .val (.int ((i0 &&& (2147483647 : Int32)) % (5 : Int32))), .val (.int (99 : Int32)), .val (.ref a_DeleteAction_CASCADE), .unset, .unset, .unset, .unset] [(.ref a_DeletionRule_CASCADE)])
        refine go (fun _ => XS.astore X217.here hx rfl (hb hby at_61) rfl rfl (l' := #[.val (.int i0), .val (.int ((i0 &&& (2147483647 : Int32)) % (5 : Int32))), .val (.int (99 : Int32)), .val (.ref a_DeleteAction_CASCADE), .val (.ref a_DeletionRule_CASCADE), .unset, .unset, .unset]) rfl) ?_
        show Ends p e below s _ _ _ T217 (mkF m 63 #[.val (.int i0), .val (.int ((i0 &&& (2147483647 : Int32)) % (5 : Int32))), .val (.int (99 : Int32)), .val (.ref a_DeleteAction_CASCADE), .val (.ref a_DeletionRule_CASCADE), .unset, .unset, .unset] [])
        refine go (fun _ => XS.goto X217.here hx rfl (pc0 := 63) (pc' := 98) rfl (hb hby at_63) (by decide) (by decide)) ?_
        show Ends p e below s _ _ _ T217 (mkF m 98 #[.val (.int i0), .val (.int ((i0 &&& (2147483647 : Int32)) % (5 : Int32))), .val (.int (99 : Int32)), .val (.ref a_DeleteAction_CASCADE), .val (.ref a_DeletionRule_CASCADE), .unset, .unset, .unset] [])
        refine go (fun _ => XT.iconstV X217.here hx rfl (1 : Int32) (hb hby at_98) (by decide)) ?_
        show Ends p e below s _ _ _ T217 (mkF m 99 #[.val (.int i0), .val (.int ((i0 &&& (2147483647 : Int32)) % (5 : Int32))), .val (.int (99 : Int32)), .val (.ref a_DeleteAction_CASCADE), .val (.ref a_DeletionRule_CASCADE), .unset, .unset, .unset] [(.int (1 : Int32))])
        obtain ⟨T218, h218, k218, X218, e218, E218, A218, s218⟩ := newP X217 hx hZ (hw _ (List.mem_of_getElem? (i := 7) rfl)) e217 (g := (mkF m 99 #[.val (.int i0), .val (.int ((i0 &&& (2147483647 : Int32)) % (5 : Int32))), .val (.int (99 : Int32)), .val (.ref a_DeleteAction_CASCADE), .val (.ref a_DeletionRule_CASCADE), .unset, .unset, .unset] [(.int (1 : Int32))])) rfl (hb hby at_99) rfl (by decide) (cap := 1) (by decide) (by decide) (by decide) (by decide)
        obtain ⟨a218, g218⟩ : ∃ z : Addr, z = h0.size := ⟨_, rfl⟩
        have f218 : Z.heap.size ≤ a218 := by rw [g218]; exact (O0).1
        rw [← g218] at A218 s218
        have O219 : Ext Z.heap h218 := xx O0 E218
        have V218 : Arv Z h218 a218 k218 .char (1 : Int32) [(.int (0 : Int32))] (.int 0) := Arv.pad (Arv.new A218 (by decide)) (pad_rep [] _ 1)
        refine go s218 ?_
        show Ends p e below s _ _ _ T218 (mkF m 101 #[.val (.int i0), .val (.int ((i0 &&& (2147483647 : Int32)) % (5 : Int32))), .val (.int (99 : Int32)), .val (.ref a_DeleteAction_CASCADE), .val (.ref a_DeletionRule_CASCADE), .unset, .unset, .unset] [(.ref a218)])
        refine go (fun _ => XS.astore X218.here hx rfl (hb hby at_101) rfl rfl (l' := #[.val (.int i0), .val (.int ((i0 &&& (2147483647 : Int32)) % (5 : Int32))), .val (.int (99 : Int32)), .val (.ref a_DeleteAction_CASCADE), .val (.ref a_DeletionRule_CASCADE), .val (.ref a218), .unset, .unset]) rfl) ?_
        show Ends p e below s _ _ _ T218 (mkF m 103 #[.val (.int i0), .val (.int ((i0 &&& (2147483647 : Int32)) % (5 : Int32))), .val (.int (99 : Int32)), .val (.ref a_DeleteAction_CASCADE), .val (.ref a_DeletionRule_CASCADE), .val (.ref a218), .unset, .unset] [])
        refine go (fun _ => XS.aload X218.here hx rfl (hb hby at_103) rfl rfl) ?_
        show Ends p e below s _ _ _ T218 (mkF m 105 #[.val (.int i0), .val (.int ((i0 &&& (2147483647 : Int32)) % (5 : Int32))), .val (.int (99 : Int32)), .val (.ref a_DeleteAction_CASCADE), .val (.ref a_DeletionRule_CASCADE), .val (.ref a218), .unset, .unset] [(.ref a218)])
        refine go (fun _ => XT.iconstV X218.here hx rfl (0 : Int32) (hb hby at_105) (by decide)) ?_
        show Ends p e below s _ _ _ T218 (mkF m 106 #[.val (.int i0), .val (.int ((i0 &&& (2147483647 : Int32)) % (5 : Int32))), .val (.int (99 : Int32)), .val (.ref a_DeleteAction_CASCADE), .val (.ref a_DeletionRule_CASCADE), .val (.ref a218), .unset, .unset] [(.int (0 : Int32)), (.ref a218)])
        refine go (fun _ => XS.iloadN X218.here hx rfl (hb hby at_106) rfl) ?_
        show Ends p e below s _ _ _ T218 (mkF m 107 #[.val (.int i0), .val (.int ((i0 &&& (2147483647 : Int32)) % (5 : Int32))), .val (.int (99 : Int32)), .val (.ref a_DeleteAction_CASCADE), .val (.ref a_DeletionRule_CASCADE), .val (.ref a218), .unset, .unset] [(.int (99 : Int32)), (.int (0 : Int32)), (.ref a218)])
        obtain ⟨c220, A220, q220, S220, M220, H220, G220⟩ := id V218
        obtain ⟨T220, h220, X220, e220, W220, s220⟩ := stC X218 hx hZ e218 A220 (j := (0 : Int32)) (inb_of S220 (by decide)) (g := (mkF m 107 #[.val (.int i0), .val (.int ((i0 &&& (2147483647 : Int32)) % (5 : Int32))), .val (.int (99 : Int32)), .val (.ref a_DeleteAction_CASCADE), .val (.ref a_DeletionRule_CASCADE), .val (.ref a218), .unset, .unset] [(.int (99 : Int32)), (.int (0 : Int32)), (.ref a218)])) rfl rfl (hb hby at_107)
        have r220 : nar .char (99 : Int32) = (99 : Int32) := (by decide)
        rw [r220] at W220
        have N220 := Fr.snoc X220 (Fr.nil _) f218
        have O221 : Ext Z.heap h220 := xw O219 W220 f218
        have V220 : Arv Z h220 a218 k218 .char (1 : Int32) [(.int (99 : Int32))] (.int 0) := Arv.set A220 q220 S220 M220 H220 G220 (by first | rfl | exact fits_nar_char (99 : Int32) | (rw [← r220]; exact fits_nar_char (99 : Int32))) W220 0 (by decide) (by decide)
        refine go s220 ?_
        show Ends p e below s _ _ _ T220 (mkF m 108 #[.val (.int i0), .val (.int ((i0 &&& (2147483647 : Int32)) % (5 : Int32))), .val (.int (99 : Int32)), .val (.ref a_DeleteAction_CASCADE), .val (.ref a_DeletionRule_CASCADE), .val (.ref a218), .unset, .unset] [])
        obtain ⟨T222, h222, X222, e222, E222, A222, D222, U222, s222⟩ := newO X220 hx hZ hown (hw _ (List.mem_of_getElem? (i := 8) rfl)) (hw _ (List.mem_of_getElem? (i := 9) rfl)) (hw _ (List.mem_of_getElem? (i := 10) rfl)) e220 (g := (mkF m 108 #[.val (.int i0), .val (.int ((i0 &&& (2147483647 : Int32)) % (5 : Int32))), .val (.int (99 : Int32)), .val (.ref a_DeleteAction_CASCADE), .val (.ref a_DeletionRule_CASCADE), .val (.ref a218), .unset, .unset] [])) rfl (hb hby at_108) (by decide) (by decide)
        obtain ⟨a222, g222⟩ : ∃ z : Addr, z = h220.size := ⟨_, rfl⟩
        have n223 : a218 ≠ a222 := fun q => absurd (V220.lt) (by rw [q, g222]; exact Nat.lt_irrefl _)
        have f222 : Z.heap.size ≤ a222 := by rw [g222]; exact (O221).1
        rw [← g222] at A222 D222 U222 s222
        have O224 : Ext Z.heap h222 := xx O221 E222
        refine go s222 ?_
        show Ends p e below s _ _ _ T222 (mkF m 111 #[.val (.int i0), .val (.int ((i0 &&& (2147483647 : Int32)) % (5 : Int32))), .val (.int (99 : Int32)), .val (.ref a_DeleteAction_CASCADE), .val (.ref a_DeletionRule_CASCADE), .val (.ref a218), .unset, .unset] [(.ref a222)])
        refine go (fun _ => XS.dup X222.here hx rfl (hb hby at_111) rfl rfl) ?_
        show Ends p e below s _ _ _ T222 (mkF m 112 #[.val (.int i0), .val (.int ((i0 &&& (2147483647 : Int32)) % (5 : Int32))), .val (.int (99 : Int32)), .val (.ref a_DeleteAction_CASCADE), .val (.ref a_DeletionRule_CASCADE), .val (.ref a218), .unset, .unset] [(.ref a222), (.ref a222)])
        refine go (fun _ => XS.aload X222.here hx rfl (hb hby at_112) rfl rfl) ?_
        show Ends p e below s _ _ _ T222 (mkF m 114 #[.val (.int i0), .val (.int ((i0 &&& (2147483647 : Int32)) % (5 : Int32))), .val (.int (99 : Int32)), .val (.ref a_DeleteAction_CASCADE), .val (.ref a_DeletionRule_CASCADE), .val (.ref a218), .unset, .unset] [(.ref a218), (.ref a222), (.ref a222)])
        have F225 := (D222 (Or.inr (hw _ (List.mem_of_getElem? (i := 36) rfl))) (ty := (.array .byte)) (by decide))
        have F226 := (D222 (Or.inr (hw _ (List.mem_of_getElem? (i := 34) rfl))) (ty := .byte) (by decide))
        have F227 := (Arv.ext V220 E222)
        refine cInit X222 hx hZ hown (by rw [hml]; rfl) e222 (hw _ (List.mem_of_getElem? (i := 11) rfl)) (hw _ (List.mem_of_getElem? (i := 12) rfl)) (hw _ (List.mem_of_getElem? (i := 10) rfl)) (hw _ (List.mem_of_getElem? (i := 13) rfl)) a222 [(.ref a218)] [(.ref a222)] rfl (rm_new1_1 hw a222 a218 k218 (99 : Int32) _ O224 f222 (Ne.symm n223) A222 F225 F226 cz SCS hcz F227 (by decide)) (hb hby at_114) rfl (lenOf pd_12 rfl) rfl (by decide) (by decide) (Nat.le_of_ble_eq_true rfl) (by decide) (by decide) ?_
        rintro v228 T228 h228 L228 X228 e228 ⟨b228, k228, rfl, N228, K228, g228, Fv228, Fc228, V228⟩
        have N228a := Fr.app N220 N228
        have n229 : a218 ≠ b228 := Nat.ne_of_lt (Nat.lt_of_lt_of_le (F227.lt) g228)
        have n230 : a222 ≠ b228 := Nat.ne_of_lt (Nat.lt_of_lt_of_le (A222.lt) g228)
        have f231 : Z.heap.size ≤ b228 := Nat.le_trans (O224).1 g228
        have O232 : Ext Z.heap h228 := xk O224 K228 (allS f222 all0)
        have Vl228 : Arv Z h228 b228 k228 .byte (1 : Int32) [(.int (99 : Int32))] (.int 0) := V228
        show Ends p e below s _ _ _ T228 (mkF m 117 #[.val (.int i0), .val (.int ((i0 &&& (2147483647 : Int32)) % (5 : Int32))), .val (.int (99 : Int32)), .val (.ref a_DeleteAction_CASCADE), .val (.ref a_DeletionRule_CASCADE), .val (.ref a218), .unset, .unset] [(.ref a222)])
        refine go (fun _ => XS.astore X228.here hx rfl (hb hby at_117) rfl rfl (l' := #[.val (.int i0), .val (.int ((i0 &&& (2147483647 : Int32)) % (5 : Int32))), .val (.int (99 : Int32)), .val (.ref a_DeleteAction_CASCADE), .val (.ref a_DeletionRule_CASCADE), .val (.ref a218), .val (.ref a222), .unset]) rfl) ?_
        show Ends p e below s _ _ _ T228 (mkF m 119 #[.val (.int i0), .val (.int ((i0 &&& (2147483647 : Int32)) % (5 : Int32))), .val (.int (99 : Int32)), .val (.ref a_DeleteAction_CASCADE), .val (.ref a_DeletionRule_CASCADE), .val (.ref a218), .val (.ref a222), .unset] [])
        refine go (fun _ => XS.aload X228.here hx rfl (hb hby at_119) rfl rfl) ?_
        show Ends p e below s _ _ _ T228 (mkF m 121 #[.val (.int i0), .val (.int ((i0 &&& (2147483647 : Int32)) % (5 : Int32))), .val (.int (99 : Int32)), .val (.ref a_DeleteAction_CASCADE), .val (.ref a_DeletionRule_CASCADE), .val (.ref a218), .val (.ref a222), .unset] [(.ref a222)])
        have F233 := (Exa.keep A222 K228)
        refine cStat X228 hx hZ hown (by rw [hml]; rfl) e228 (hw _ (List.mem_of_getElem? (i := 37) rfl)) (hw _ (List.mem_of_getElem? (i := 38) rfl)) (hw _ (List.mem_of_getElem? (i := 2) rfl)) (hw _ (List.mem_of_getElem? (i := 39) rfl)) [(.ref a222)] [] rfl (rm_from_99 hw a222 b228 k228 a_DeleteAction_NO_ACTION a_DeletionRule_RESTRICT a_DeleteAction__VALUES a_DeleteAction_RESTRICT a_DeleteAction_CASCADE a_DeleteAction_SET_NULL a_DeleteAction_SET_DEFAULT a_DeleteAction_NO_ACTION_catalogCode a_DeleteAction_NO_ACTION_catalogCode_value a_DeletionRule_DETACH a_DeleteAction_RESTRICT_catalogCode a_DeleteAction_RESTRICT_catalogCode_value a_DeleteAction_CASCADE_catalogCode a_DeleteAction_CASCADE_catalogCode_value a_DeleteAction_SET_NULL_catalogCode a_DeleteAction_SET_NULL_catalogCode_value a_DeleteAction_SET_DEFAULT_catalogCode a_DeleteAction_SET_DEFAULT_catalogCode_value a_DeletionRule_CASCADE k_a_DeleteAction__VALUES k_a_DeleteAction_NO_ACTION_catalogCode_value k_a_DeleteAction_RESTRICT_catalogCode_value k_a_DeleteAction_CASCADE_catalogCode_value k_a_DeleteAction_SET_NULL_catalogCode_value k_a_DeleteAction_SET_DEFAULT_catalogCode_value _ O232 cz SCS hcz ft_2 ft_5 ft_8 ft_15 ft_20 ft_25 ft_30 ft_48 ft_101 ex_3 ex_6 ex_10 ex_16 ex_21 ex_26 ex_31 ex_36 ex_49 ex_52 ex_63 ex_74 ex_89 ex_102 ft_35 ft_38 ft_40 ft_46 ft_51 ft_54 ft_56 ft_62 ft_65 ft_67 ft_73 ft_76 ft_78 ft_84 ft_86 ft_88 ft_91 ft_93 ft_99 ft_104 av_105 av_106 av_107 av_108 av_109 av_110 f222 F233 Fv228 Fc228 Vl228) (hb hby at_121) rfl (lenOf pd_13 rfl) (by decide) (by decide) (Nat.le_of_ble_eq_true rfl) (by decide) (by decide) ?_
        rintro v234 T234 h234 L234 X234 e234 ⟨rfl, N234, K234⟩
        have N234a := Fr.app N228a N234
        have O235 : Ext Z.heap h234 := xk O232 K234 all0
        show Ends p e below s _ _ _ T234 (mkF m 124 #[.val (.int i0), .val (.int ((i0 &&& (2147483647 : Int32)) % (5 : Int32))), .val (.int (99 : Int32)), .val (.ref a_DeleteAction_CASCADE), .val (.ref a_DeletionRule_CASCADE), .val (.ref a218), .val (.ref a222), .unset] [(.ref a_DeleteAction_CASCADE)])
        refine go (fun _ => XS.astore X234.here hx rfl (hb hby at_124) rfl rfl (l' := #[.val (.int i0), .val (.int ((i0 &&& (2147483647 : Int32)) % (5 : Int32))), .val (.int (99 : Int32)), .val (.ref a_DeleteAction_CASCADE), .val (.ref a_DeletionRule_CASCADE), .val (.ref a218), .val (.ref a222), .val (.ref a_DeleteAction_CASCADE)]) rfl) ?_
        show Ends p e below s _ _ _ T234 (mkF m 126 #[.val (.int i0), .val (.int ((i0 &&& (2147483647 : Int32)) % (5 : Int32))), .val (.int (99 : Int32)), .val (.ref a_DeleteAction_CASCADE), .val (.ref a_DeletionRule_CASCADE), .val (.ref a218), .val (.ref a222), .val (.ref a_DeleteAction_CASCADE)] [])
        refine go (fun _ => XS.aload X234.here hx rfl (hb hby at_126) rfl rfl) ?_
        show Ends p e below s _ _ _ T234 (mkF m 128 #[.val (.int i0), .val (.int ((i0 &&& (2147483647 : Int32)) % (5 : Int32))), .val (.int (99 : Int32)), .val (.ref a_DeleteAction_CASCADE), .val (.ref a_DeletionRule_CASCADE), .val (.ref a218), .val (.ref a222), .val (.ref a_DeleteAction_CASCADE)] [(.ref a_DeleteAction_CASCADE)])
        refine go (fun _ => XS.aloadN X234.here hx rfl (hb hby at_128) rfl rfl) ?_
        show Ends p e below s _ _ _ T234 (mkF m 129 #[.val (.int i0), .val (.int ((i0 &&& (2147483647 : Int32)) % (5 : Int32))), .val (.int (99 : Int32)), .val (.ref a_DeleteAction_CASCADE), .val (.ref a_DeletionRule_CASCADE), .val (.ref a218), .val (.ref a222), .val (.ref a_DeleteAction_CASCADE)] [(.ref a_DeleteAction_CASCADE), (.ref a_DeleteAction_CASCADE)])
        refine go (fun _ => XT.acmpNo X234.here hx rfl (hb hby at_129) rfl rfl rfl (XT.aa_ne_f (rfl : ((.ref a_DeleteAction_CASCADE) : Value) = (.ref a_DeleteAction_CASCADE)))) ?_
        show Ends p e below s _ _ _ T234 (mkF m 132 #[.val (.int i0), .val (.int ((i0 &&& (2147483647 : Int32)) % (5 : Int32))), .val (.int (99 : Int32)), .val (.ref a_DeleteAction_CASCADE), .val (.ref a_DeletionRule_CASCADE), .val (.ref a218), .val (.ref a222), .val (.ref a_DeleteAction_CASCADE)] [])
        refine go (fun _ => XS.aload X234.here hx rfl (hb hby at_132) rfl rfl) ?_
        show Ends p e below s _ _ _ T234 (mkF m 134 #[.val (.int i0), .val (.int ((i0 &&& (2147483647 : Int32)) % (5 : Int32))), .val (.int (99 : Int32)), .val (.ref a_DeleteAction_CASCADE), .val (.ref a_DeletionRule_CASCADE), .val (.ref a218), .val (.ref a222), .val (.ref a_DeleteAction_CASCADE)] [(.ref a_DeleteAction_CASCADE)])
        refine cVirt X234 hx hZ hown (by rw [hml]; rfl) e234 (hw _ (List.mem_of_getElem? (i := 71) rfl)) (hw _ (List.mem_of_getElem? (i := 72) rfl)) (hw _ (List.mem_of_getElem? (i := 74) rfl)) (hw _ (List.mem_of_getElem? (i := 73) rfl)) (hw _ (List.mem_of_getElem? (i := 2) rfl)) (hw _ (List.mem_of_getElem? (i := 75) rfl)) (notFace_of_selects (args := #[]) (mvT hZ (hw _ (List.mem_of_getElem? (i := 74) rfl)))) a_DeleteAction_CASCADE (Exa.ext O235 ex_21) [] [] rfl (rm_rule hw a_DeleteAction_CASCADE a_DeletionRule_CASCADE _ (Fld.ext O235 ft_104)) (hb hby at_134) rfl (lenOf pd_14 rfl) (by decide) (by decide) (Nat.le_of_ble_eq_true rfl) (by decide) (by decide) ?_
        rintro v236 T236 h236 L236 X236 e236 ⟨rfl, N236, rfl⟩
        have N236a := Fr.app N234a N236
        show Ends p e below s _ _ _ T236 (mkF m 137 #[.val (.int i0), .val (.int ((i0 &&& (2147483647 : Int32)) % (5 : Int32))), .val (.int (99 : Int32)), .val (.ref a_DeleteAction_CASCADE), .val (.ref a_DeletionRule_CASCADE), .val (.ref a218), .val (.ref a222), .val (.ref a_DeleteAction_CASCADE)] [(.ref a_DeletionRule_CASCADE)])
        refine go (fun _ => XS.aload X236.here hx rfl (hb hby at_137) rfl rfl) ?_
        show Ends p e below s _ _ _ T236 (mkF m 139 #[.val (.int i0), .val (.int ((i0 &&& (2147483647 : Int32)) % (5 : Int32))), .val (.int (99 : Int32)), .val (.ref a_DeleteAction_CASCADE), .val (.ref a_DeletionRule_CASCADE), .val (.ref a218), .val (.ref a222), .val (.ref a_DeleteAction_CASCADE)] [(.ref a_DeletionRule_CASCADE), (.ref a_DeletionRule_CASCADE)])
        refine go (fun _ => XT.acmpNo X236.here hx rfl (hb hby at_139) rfl rfl rfl (XT.aa_ne_f (rfl : ((.ref a_DeletionRule_CASCADE) : Value) = (.ref a_DeletionRule_CASCADE)))) ?_
        show Ends p e below s _ _ _ T236 (mkF m 142 #[.val (.int i0), .val (.int ((i0 &&& (2147483647 : Int32)) % (5 : Int32))), .val (.int (99 : Int32)), .val (.ref a_DeleteAction_CASCADE), .val (.ref a_DeletionRule_CASCADE), .val (.ref a218), .val (.ref a222), .val (.ref a_DeleteAction_CASCADE)] [])
        refine go (fun _ => XT.iconstV X236.here hx rfl (1 : Int32) (hb hby at_142) (by decide)) ?_
        show Ends p e below s _ _ _ T236 (mkF m 143 #[.val (.int i0), .val (.int ((i0 &&& (2147483647 : Int32)) % (5 : Int32))), .val (.int (99 : Int32)), .val (.ref a_DeleteAction_CASCADE), .val (.ref a_DeletionRule_CASCADE), .val (.ref a218), .val (.ref a222), .val (.ref a_DeleteAction_CASCADE)] [(.int (1 : Int32))])
        refine go (fun _ => XS.goto X236.here hx rfl (pc0 := 143) (pc' := 147) rfl (hb hby at_143) (by decide) (by decide)) ?_
        show Ends p e below s _ _ _ T236 (mkF m 147 #[.val (.int i0), .val (.int ((i0 &&& (2147483647 : Int32)) % (5 : Int32))), .val (.int (99 : Int32)), .val (.ref a_DeleteAction_CASCADE), .val (.ref a_DeletionRule_CASCADE), .val (.ref a218), .val (.ref a222), .val (.ref a_DeleteAction_CASCADE)] [(.int (1 : Int32))])
        exact endN X236 hx hlk hret (by simp) (hb hby at_147) e236 ⟨rfl, N236a⟩ (by decide) (by decide)
      · refine go (fun _ => XS.icmpYes X0.here hx rfl (pc0 := 48) (pc' := 66) rfl (hb hby at_48) rfl (XT.ii_ne_t c48_215) (by decide) (by decide)) ?_
        show Ends p e below s _ _ _ T0 (mkF m 66 #[.val (.int i0), .val (.int ((i0 &&& (2147483647 : Int32)) % (5 : Int32))), .unset, .unset, .unset, .unset, .unset, .unset] [])
        refine go (fun _ => XS.iloadN X0.here hx rfl (hb hby at_66) rfl) ?_
        show Ends p e below s _ _ _ T0 (mkF m 67 #[.val (.int i0), .val (.int ((i0 &&& (2147483647 : Int32)) % (5 : Int32))), .unset, .unset, .unset, .unset, .unset, .unset] [(.int ((i0 &&& (2147483647 : Int32)) % (5 : Int32)))])
        refine go (fun _ => XT.iconstV X0.here hx rfl (3 : Int32) (hb hby at_67) (by decide)) ?_
        show Ends p e below s _ _ _ T0 (mkF m 68 #[.val (.int i0), .val (.int ((i0 &&& (2147483647 : Int32)) % (5 : Int32))), .unset, .unset, .unset, .unset, .unset, .unset] [(.int (3 : Int32)), (.int ((i0 &&& (2147483647 : Int32)) % (5 : Int32)))])
        by_cases c68_237 : ((i0 &&& (2147483647 : Int32)) % (5 : Int32)) = (3 : Int32)
        · refine go (fun _ => XS.icmpNo X0.here hx rfl (hb hby at_68) rfl (XT.ii_ne_f c68_237)) ?_
          show Ends p e below s _ _ _ T0 (mkF m 71 #[.val (.int i0), .val (.int ((i0 &&& (2147483647 : Int32)) % (5 : Int32))), .unset, .unset, .unset, .unset, .unset, .unset] [])
          refine go (fun _ => XT.bipushV X0.here hx rfl (110 : Int32) (hb hby at_71) (by decide)) ?_
          show Ends p e below s _ _ _ T0 (mkF m 73 #[.val (.int i0), .val (.int ((i0 &&& (2147483647 : Int32)) % (5 : Int32))), .unset, .unset, .unset, .unset, .unset, .unset] [(.int (110 : Int32))])
          refine go (fun _ => XS.istoreN X0.here hx rfl (hb hby at_73) rfl (l' := #[.val (.int i0), .val (.int ((i0 &&& (2147483647 : Int32)) % (5 : Int32))), .val (.int (110 : Int32)), .unset, .unset, .unset, .unset, .unset]) rfl) ?_
          show Ends p e below s _ _ _ T0 (mkF m 74 #[.val (.int i0), .val (.int ((i0 &&& (2147483647 : Int32)) % (5 : Int32))), .val (.int (110 : Int32)), .unset, .unset, .unset, .unset, .unset] [])
          obtain ⟨T238, X238, e238, s238⟩ := getS2 X0 hx hZ hown (host := "") (Or.inl (hw _ (List.mem_of_getElem? (i := 78) rfl))) Via.refl e0 (Sta.ext O0 ft_25) (g := (mkF m 74 #[.val (.int i0), .val (.int ((i0 &&& (2147483647 : Int32)) % (5 : Int32))), .val (.int (110 : Int32)), .unset, .unset, .unset, .unset, .unset] [])) rfl (hb hby at_74)
          refine go s238 ?_
          show Ends p e below s _ _ _ T238 (mkF m 77 #[.val (.int i0), .val (.int ((i0 &&& (2147483647 : Int32)) % (5 : Int32))), .val (.int (110 : Int32)), .unset, .unset, .unset, .unset, .unset] [(.ref a_DeleteAction_SET_NULL)])
          refine go (fun _ => XS.astoreN X238.here hx rfl (hb hby at_77) rfl rfl (l' := #[.val (.int i0), .val (.int ((i0 &&& (2147483647 : Int32)) % (5 : Int32))), .val (.int (110 : Int32)), .val (.ref a_DeleteAction_SET_NULL), .unset, .unset, .unset, .unset]) rfl) ?_
          show Ends p e below s _ _ _ T238 (mkF m 78 #[.val (.int i0), .val (.int ((i0 &&& (2147483647 : Int32)) % (5 : Int32))), .val (.int (110 : Int32)), .val (.ref a_DeleteAction_SET_NULL), .unset, .unset, .unset, .unset] [])
          obtain ⟨T239, X239, e239, s239⟩ := getS2 X238 hx hZ hown (host := "") (Or.inl (hw _ (List.mem_of_getElem? (i := 79) rfl))) Via.refl e238 (Sta.ext O0 ft_48) (g := (mkF m 78 #[.val (.int i0), .val (.int ((i0 &&& (2147483647 : Int32)) % (5 : Int32))), .val (.int (110 : Int32)), .val (.ref a_DeleteAction_SET_NULL), .unset, .unset, .unset, .unset] [])) rfl (hb hby at_78)
          refine go s239 ?_
          show Ends p e below s _ _ _ T239 (mkF m 81 #[.val (.int i0), .val (.int ((i0 &&& (2147483647 : Int32)) % (5 : Int32))), .val (.int (110 : Int32)), .val (.ref a_DeleteAction_SET_NULL), .unset, .unset, .unset, .unset] [(.ref a_DeletionRule_DETACH)])
          refine go (fun _ => XS.astore X239.here hx rfl (hb hby at_81) rfl rfl (l' := #[.val (.int i0), .val (.int ((i0 &&& (2147483647 : Int32)) % (5 : Int32))), .val (.int (110 : Int32)), .val (.ref a_DeleteAction_SET_NULL), .val (.ref a_DeletionRule_DETACH), .unset, .unset, .unset]) rfl) ?_
          show Ends p e below s _ _ _ T239 (mkF m 83 #[.val (.int i0), .val (.int ((i0 &&& (2147483647 : Int32)) % (5 : Int32))), .val (.int (110 : Int32)), .val (.ref a_DeleteAction_SET_NULL), .val (.ref a_DeletionRule_DETACH), .unset, .unset, .unset] [])
          refine go (fun _ => XS.goto X239.here hx rfl (pc0 := 83) (pc' := 98) rfl (hb hby at_83) (by decide) (by decide)) ?_
          show Ends p e below s _ _ _ T239 (mkF m 98 #[.val (.int i0), .val (.int ((i0 &&& (2147483647 : Int32)) % (5 : Int32))), .val (.int (110 : Int32)), .val (.ref a_DeleteAction_SET_NULL), .val (.ref a_DeletionRule_DETACH), .unset, .unset, .unset] [])
          refine go (fun _ => XT.iconstV X239.here hx rfl (1 : Int32) (hb hby at_98) (by decide)) ?_
          show Ends p e below s _ _ _ T239 (mkF m 99 #[.val (.int i0), .val (.int ((i0 &&& (2147483647 : Int32)) % (5 : Int32))), .val (.int (110 : Int32)), .val (.ref a_DeleteAction_SET_NULL), .val (.ref a_DeletionRule_DETACH), .unset, .unset, .unset] [(.int (1 : Int32))])
          obtain ⟨T240, h240, k240, X240, e240, E240, A240, s240⟩ := newP X239 hx hZ (hw _ (List.mem_of_getElem? (i := 7) rfl)) e239 (g := (mkF m 99 #[.val (.int i0), .val (.int ((i0 &&& (2147483647 : Int32)) % (5 : Int32))), .val (.int (110 : Int32)), .val (.ref a_DeleteAction_SET_NULL), .val (.ref a_DeletionRule_DETACH), .unset, .unset, .unset] [(.int (1 : Int32))])) rfl (hb hby at_99) rfl (by decide) (cap := 1) (by decide) (by decide) (by decide) (by decide)
          obtain ⟨a240, g240⟩ : ∃ z : Addr, z = h0.size := ⟨_, rfl⟩
          have f240 : Z.heap.size ≤ a240 := by rw [g240]; exact (O0).1
          rw [← g240] at A240 s240
          have O241 : Ext Z.heap h240 := xx O0 E240
          have V240 : Arv Z h240 a240 k240 .char (1 : Int32) [(.int (0 : Int32))] (.int 0) := Arv.pad (Arv.new A240 (by decide)) (pad_rep [] _ 1)
          refine go s240 ?_
          show Ends p e below s _ _ _ T240 (mkF m 101 #[.val (.int i0), .val (.int ((i0 &&& (2147483647 : Int32)) % (5 : Int32))), .val (.int (110 : Int32)), .val (.ref a_DeleteAction_SET_NULL), .val (.ref a_DeletionRule_DETACH), .unset, .unset, .unset] [(.ref a240)])
          refine go (fun _ => XS.astore X240.here hx rfl (hb hby at_101) rfl rfl (l' := #[.val (.int i0), .val (.int ((i0 &&& (2147483647 : Int32)) % (5 : Int32))), .val (.int (110 : Int32)), .val (.ref a_DeleteAction_SET_NULL), .val (.ref a_DeletionRule_DETACH), .val (.ref a240), .unset, .unset]) rfl) ?_
          show Ends p e below s _ _ _ T240 (mkF m 103 #[.val (.int i0), .val (.int ((i0 &&& (2147483647 : Int32)) % (5 : Int32))), .val (.int (110 : Int32)), .val (.ref a_DeleteAction_SET_NULL), .val (.ref a_DeletionRule_DETACH), .val (.ref a240), .unset, .unset] [])
          refine go (fun _ => XS.aload X240.here hx rfl (hb hby at_103) rfl rfl) ?_
          show Ends p e below s _ _ _ T240 (mkF m 105 #[.val (.int i0), .val (.int ((i0 &&& (2147483647 : Int32)) % (5 : Int32))), .val (.int (110 : Int32)), .val (.ref a_DeleteAction_SET_NULL), .val (.ref a_DeletionRule_DETACH), .val (.ref a240), .unset, .unset] [(.ref a240)])
          refine go (fun _ => XT.iconstV X240.here hx rfl (0 : Int32) (hb hby at_105) (by decide)) ?_
          show Ends p e below s _ _ _ T240 (mkF m 106 #[.val (.int i0), .val (.int ((i0 &&& (2147483647 : Int32)) % (5 : Int32))), .val (.int (110 : Int32)), .val (.ref a_DeleteAction_SET_NULL), .val (.ref a_DeletionRule_DETACH), .val (.ref a240), .unset, .unset] [(.int (0 : Int32)), (.ref a240)])
          refine go (fun _ => XS.iloadN X240.here hx rfl (hb hby at_106) rfl) ?_
          show Ends p e below s _ _ _ T240 (mkF m 107 #[.val (.int i0), .val (.int ((i0 &&& (2147483647 : Int32)) % (5 : Int32))), .val (.int (110 : Int32)), .val (.ref a_DeleteAction_SET_NULL), .val (.ref a_DeletionRule_DETACH), .val (.ref a240), .unset, .unset] [(.int (110 : Int32)), (.int (0 : Int32)), (.ref a240)])
          obtain ⟨c242, A242, q242, S242, M242, H242, G242⟩ := id V240
          obtain ⟨T242, h242, X242, e242, W242, s242⟩ := stC X240 hx hZ e240 A242 (j := (0 : Int32)) (inb_of S242 (by decide)) (g := (mkF m 107 #[.val (.int i0), .val (.int ((i0 &&& (2147483647 : Int32)) % (5 : Int32))), .val (.int (110 : Int32)), .val (.ref a_DeleteAction_SET_NULL), .val (.ref a_DeletionRule_DETACH), .val (.ref a240), .unset, .unset] [(.int (110 : Int32)), (.int (0 : Int32)), (.ref a240)])) rfl rfl (hb hby at_107)
          have r242 : nar .char (110 : Int32) = (110 : Int32) := (by decide)
          rw [r242] at W242
          have N242 := Fr.snoc X242 (Fr.nil _) f240
          have O243 : Ext Z.heap h242 := xw O241 W242 f240
          have V242 : Arv Z h242 a240 k240 .char (1 : Int32) [(.int (110 : Int32))] (.int 0) := Arv.set A242 q242 S242 M242 H242 G242 (by first | rfl | exact fits_nar_char (110 : Int32) | (rw [← r242]; exact fits_nar_char (110 : Int32))) W242 0 (by decide) (by decide)
          refine go s242 ?_
          show Ends p e below s _ _ _ T242 (mkF m 108 #[.val (.int i0), .val (.int ((i0 &&& (2147483647 : Int32)) % (5 : Int32))), .val (.int (110 : Int32)), .val (.ref a_DeleteAction_SET_NULL), .val (.ref a_DeletionRule_DETACH), .val (.ref a240), .unset, .unset] [])
          obtain ⟨T244, h244, X244, e244, E244, A244, D244, U244, s244⟩ := newO X242 hx hZ hown (hw _ (List.mem_of_getElem? (i := 8) rfl)) (hw _ (List.mem_of_getElem? (i := 9) rfl)) (hw _ (List.mem_of_getElem? (i := 10) rfl)) e242 (g := (mkF m 108 #[.val (.int i0), .val (.int ((i0 &&& (2147483647 : Int32)) % (5 : Int32))), .val (.int (110 : Int32)), .val (.ref a_DeleteAction_SET_NULL), .val (.ref a_DeletionRule_DETACH), .val (.ref a240), .unset, .unset] [])) rfl (hb hby at_108) (by decide) (by decide)
          obtain ⟨a244, g244⟩ : ∃ z : Addr, z = h242.size := ⟨_, rfl⟩
          have n245 : a240 ≠ a244 := fun q => absurd (V242.lt) (by rw [q, g244]; exact Nat.lt_irrefl _)
          have f244 : Z.heap.size ≤ a244 := by rw [g244]; exact (O243).1
          rw [← g244] at A244 D244 U244 s244
          have O246 : Ext Z.heap h244 := xx O243 E244
          refine go s244 ?_
          show Ends p e below s _ _ _ T244 (mkF m 111 #[.val (.int i0), .val (.int ((i0 &&& (2147483647 : Int32)) % (5 : Int32))), .val (.int (110 : Int32)), .val (.ref a_DeleteAction_SET_NULL), .val (.ref a_DeletionRule_DETACH), .val (.ref a240), .unset, .unset] [(.ref a244)])
          refine go (fun _ => XS.dup X244.here hx rfl (hb hby at_111) rfl rfl) ?_
          show Ends p e below s _ _ _ T244 (mkF m 112 #[.val (.int i0), .val (.int ((i0 &&& (2147483647 : Int32)) % (5 : Int32))), .val (.int (110 : Int32)), .val (.ref a_DeleteAction_SET_NULL), .val (.ref a_DeletionRule_DETACH), .val (.ref a240), .unset, .unset] [(.ref a244), (.ref a244)])
          refine go (fun _ => XS.aload X244.here hx rfl (hb hby at_112) rfl rfl) ?_
          show Ends p e below s _ _ _ T244 (mkF m 114 #[.val (.int i0), .val (.int ((i0 &&& (2147483647 : Int32)) % (5 : Int32))), .val (.int (110 : Int32)), .val (.ref a_DeleteAction_SET_NULL), .val (.ref a_DeletionRule_DETACH), .val (.ref a240), .unset, .unset] [(.ref a240), (.ref a244), (.ref a244)])
          have F247 := (D244 (Or.inr (hw _ (List.mem_of_getElem? (i := 36) rfl))) (ty := (.array .byte)) (by decide))
          have F248 := (D244 (Or.inr (hw _ (List.mem_of_getElem? (i := 34) rfl))) (ty := .byte) (by decide))
          have F249 := (Arv.ext V242 E244)
          refine cInit X244 hx hZ hown (by rw [hml]; rfl) e244 (hw _ (List.mem_of_getElem? (i := 11) rfl)) (hw _ (List.mem_of_getElem? (i := 12) rfl)) (hw _ (List.mem_of_getElem? (i := 10) rfl)) (hw _ (List.mem_of_getElem? (i := 13) rfl)) a244 [(.ref a240)] [(.ref a244)] rfl (rm_new1_1 hw a244 a240 k240 (110 : Int32) _ O246 f244 (Ne.symm n245) A244 F247 F248 cz SCS hcz F249 (by decide)) (hb hby at_114) rfl (lenOf pd_12 rfl) rfl (by decide) (by decide) (Nat.le_of_ble_eq_true rfl) (by decide) (by decide) ?_
          rintro v250 T250 h250 L250 X250 e250 ⟨b250, k250, rfl, N250, K250, g250, Fv250, Fc250, V250⟩
          have N250a := Fr.app N242 N250
          have n251 : a240 ≠ b250 := Nat.ne_of_lt (Nat.lt_of_lt_of_le (F249.lt) g250)
          have n252 : a244 ≠ b250 := Nat.ne_of_lt (Nat.lt_of_lt_of_le (A244.lt) g250)
          have f253 : Z.heap.size ≤ b250 := Nat.le_trans (O246).1 g250
          have O254 : Ext Z.heap h250 := xk O246 K250 (allS f244 all0)
          have Vl250 : Arv Z h250 b250 k250 .byte (1 : Int32) [(.int (110 : Int32))] (.int 0) := V250
          show Ends p e below s _ _ _ T250 (mkF m 117 #[.val (.int i0), .val (.int ((i0 &&& (2147483647 : Int32)) % (5 : Int32))), .val (.int (110 : Int32)), .val (.ref a_DeleteAction_SET_NULL), .val (.ref a_DeletionRule_DETACH), .val (.ref a240), .unset, .unset] [(.ref a244)])
          refine go (fun _ => XS.astore X250.here hx rfl (hb hby at_117) rfl rfl (l' := #[.val (.int i0), .val (.int ((i0 &&& (2147483647 : Int32)) % (5 : Int32))), .val (.int (110 : Int32)), .val (.ref a_DeleteAction_SET_NULL), .val (.ref a_DeletionRule_DETACH), .val (.ref a240), .val (.ref a244), .unset]) rfl) ?_
          show Ends p e below s _ _ _ T250 (mkF m 119 #[.val (.int i0), .val (.int ((i0 &&& (2147483647 : Int32)) % (5 : Int32))), .val (.int (110 : Int32)), .val (.ref a_DeleteAction_SET_NULL), .val (.ref a_DeletionRule_DETACH), .val (.ref a240), .val (.ref a244), .unset] [])
          refine go (fun _ => XS.aload X250.here hx rfl (hb hby at_119) rfl rfl) ?_
          show Ends p e below s _ _ _ T250 (mkF m 121 #[.val (.int i0), .val (.int ((i0 &&& (2147483647 : Int32)) % (5 : Int32))), .val (.int (110 : Int32)), .val (.ref a_DeleteAction_SET_NULL), .val (.ref a_DeletionRule_DETACH), .val (.ref a240), .val (.ref a244), .unset] [(.ref a244)])
          have F255 := (Exa.keep A244 K250)
          refine cStat X250 hx hZ hown (by rw [hml]; rfl) e250 (hw _ (List.mem_of_getElem? (i := 37) rfl)) (hw _ (List.mem_of_getElem? (i := 38) rfl)) (hw _ (List.mem_of_getElem? (i := 2) rfl)) (hw _ (List.mem_of_getElem? (i := 39) rfl)) [(.ref a244)] [] rfl (rm_from_110 hw a244 b250 k250 a_DeleteAction_NO_ACTION a_DeletionRule_RESTRICT a_DeleteAction__VALUES a_DeleteAction_RESTRICT a_DeleteAction_CASCADE a_DeleteAction_SET_NULL a_DeleteAction_SET_DEFAULT a_DeleteAction_NO_ACTION_catalogCode a_DeleteAction_NO_ACTION_catalogCode_value a_DeletionRule_DETACH a_DeleteAction_RESTRICT_catalogCode a_DeleteAction_RESTRICT_catalogCode_value a_DeleteAction_CASCADE_catalogCode a_DeleteAction_CASCADE_catalogCode_value a_DeleteAction_SET_NULL_catalogCode a_DeleteAction_SET_NULL_catalogCode_value a_DeleteAction_SET_DEFAULT_catalogCode a_DeleteAction_SET_DEFAULT_catalogCode_value a_DeletionRule_CASCADE k_a_DeleteAction__VALUES k_a_DeleteAction_NO_ACTION_catalogCode_value k_a_DeleteAction_RESTRICT_catalogCode_value k_a_DeleteAction_CASCADE_catalogCode_value k_a_DeleteAction_SET_NULL_catalogCode_value k_a_DeleteAction_SET_DEFAULT_catalogCode_value _ O254 cz SCS hcz ft_2 ft_5 ft_8 ft_15 ft_20 ft_25 ft_30 ft_48 ft_101 ex_3 ex_6 ex_10 ex_16 ex_21 ex_26 ex_31 ex_36 ex_49 ex_52 ex_63 ex_74 ex_89 ex_102 ft_35 ft_38 ft_40 ft_46 ft_51 ft_54 ft_56 ft_62 ft_65 ft_67 ft_73 ft_76 ft_78 ft_84 ft_86 ft_88 ft_91 ft_93 ft_99 ft_104 av_105 av_106 av_107 av_108 av_109 av_110 f244 F255 Fv250 Fc250 Vl250) (hb hby at_121) rfl (lenOf pd_13 rfl) (by decide) (by decide) (Nat.le_of_ble_eq_true rfl) (by decide) (by decide) ?_
          rintro v256 T256 h256 L256 X256 e256 ⟨rfl, N256, K256⟩
          have N256a := Fr.app N250a N256
          have O257 : Ext Z.heap h256 := xk O254 K256 all0
          show Ends p e below s _ _ _ T256 (mkF m 124 #[.val (.int i0), .val (.int ((i0 &&& (2147483647 : Int32)) % (5 : Int32))), .val (.int (110 : Int32)), .val (.ref a_DeleteAction_SET_NULL), .val (.ref a_DeletionRule_DETACH), .val (.ref a240), .val (.ref a244), .unset] [(.ref a_DeleteAction_SET_NULL)])
          refine go (fun _ => XS.astore X256.here hx rfl (hb hby at_124) rfl rfl (l' := #[.val (.int i0), .val (.int ((i0 &&& (2147483647 : Int32)) % (5 : Int32))), .val (.int (110 : Int32)), .val (.ref a_DeleteAction_SET_NULL), .val (.ref a_DeletionRule_DETACH), .val (.ref a240), .val (.ref a244), .val (.ref a_DeleteAction_SET_NULL)]) rfl) ?_
          show Ends p e below s _ _ _ T256 (mkF m 126 #[.val (.int i0), .val (.int ((i0 &&& (2147483647 : Int32)) % (5 : Int32))), .val (.int (110 : Int32)), .val (.ref a_DeleteAction_SET_NULL), .val (.ref a_DeletionRule_DETACH), .val (.ref a240), .val (.ref a244), .val (.ref a_DeleteAction_SET_NULL)] [])
          refine go (fun _ => XS.aload X256.here hx rfl (hb hby at_126) rfl rfl) ?_
          show Ends p e below s _ _ _ T256 (mkF m 128 #[.val (.int i0), .val (.int ((i0 &&& (2147483647 : Int32)) % (5 : Int32))), .val (.int (110 : Int32)), .val (.ref a_DeleteAction_SET_NULL), .val (.ref a_DeletionRule_DETACH), .val (.ref a240), .val (.ref a244), .val (.ref a_DeleteAction_SET_NULL)] [(.ref a_DeleteAction_SET_NULL)])
          refine go (fun _ => XS.aloadN X256.here hx rfl (hb hby at_128) rfl rfl) ?_
          show Ends p e below s _ _ _ T256 (mkF m 129 #[.val (.int i0), .val (.int ((i0 &&& (2147483647 : Int32)) % (5 : Int32))), .val (.int (110 : Int32)), .val (.ref a_DeleteAction_SET_NULL), .val (.ref a_DeletionRule_DETACH), .val (.ref a240), .val (.ref a244), .val (.ref a_DeleteAction_SET_NULL)] [(.ref a_DeleteAction_SET_NULL), (.ref a_DeleteAction_SET_NULL)])
          refine go (fun _ => XT.acmpNo X256.here hx rfl (hb hby at_129) rfl rfl rfl (XT.aa_ne_f (rfl : ((.ref a_DeleteAction_SET_NULL) : Value) = (.ref a_DeleteAction_SET_NULL)))) ?_
          show Ends p e below s _ _ _ T256 (mkF m 132 #[.val (.int i0), .val (.int ((i0 &&& (2147483647 : Int32)) % (5 : Int32))), .val (.int (110 : Int32)), .val (.ref a_DeleteAction_SET_NULL), .val (.ref a_DeletionRule_DETACH), .val (.ref a240), .val (.ref a244), .val (.ref a_DeleteAction_SET_NULL)] [])
          refine go (fun _ => XS.aload X256.here hx rfl (hb hby at_132) rfl rfl) ?_
          show Ends p e below s _ _ _ T256 (mkF m 134 #[.val (.int i0), .val (.int ((i0 &&& (2147483647 : Int32)) % (5 : Int32))), .val (.int (110 : Int32)), .val (.ref a_DeleteAction_SET_NULL), .val (.ref a_DeletionRule_DETACH), .val (.ref a240), .val (.ref a244), .val (.ref a_DeleteAction_SET_NULL)] [(.ref a_DeleteAction_SET_NULL)])
          refine cVirt X256 hx hZ hown (by rw [hml]; rfl) e256 (hw _ (List.mem_of_getElem? (i := 71) rfl)) (hw _ (List.mem_of_getElem? (i := 72) rfl)) (hw _ (List.mem_of_getElem? (i := 74) rfl)) (hw _ (List.mem_of_getElem? (i := 73) rfl)) (hw _ (List.mem_of_getElem? (i := 2) rfl)) (hw _ (List.mem_of_getElem? (i := 75) rfl)) (notFace_of_selects (args := #[]) (mvT hZ (hw _ (List.mem_of_getElem? (i := 74) rfl)))) a_DeleteAction_SET_NULL (Exa.ext O257 ex_26) [] [] rfl (rm_rule hw a_DeleteAction_SET_NULL a_DeletionRule_DETACH _ (Fld.ext O257 ft_84)) (hb hby at_134) rfl (lenOf pd_14 rfl) (by decide) (by decide) (Nat.le_of_ble_eq_true rfl) (by decide) (by decide) ?_
          rintro v258 T258 h258 L258 X258 e258 ⟨rfl, N258, rfl⟩
          have N258a := Fr.app N256a N258
          show Ends p e below s _ _ _ T258 (mkF m 137 #[.val (.int i0), .val (.int ((i0 &&& (2147483647 : Int32)) % (5 : Int32))), .val (.int (110 : Int32)), .val (.ref a_DeleteAction_SET_NULL), .val (.ref a_DeletionRule_DETACH), .val (.ref a240), .val (.ref a244), .val (.ref a_DeleteAction_SET_NULL)] [(.ref a_DeletionRule_DETACH)])
          refine go (fun _ => XS.aload X258.here hx rfl (hb hby at_137) rfl rfl) ?_
          show Ends p e below s _ _ _ T258 (mkF m 139 #[.val (.int i0), .val (.int ((i0 &&& (2147483647 : Int32)) % (5 : Int32))), .val (.int (110 : Int32)), .val (.ref a_DeleteAction_SET_NULL), .val (.ref a_DeletionRule_DETACH), .val (.ref a240), .val (.ref a244), .val (.ref a_DeleteAction_SET_NULL)] [(.ref a_DeletionRule_DETACH), (.ref a_DeletionRule_DETACH)])
          refine go (fun _ => XT.acmpNo X258.here hx rfl (hb hby at_139) rfl rfl rfl (XT.aa_ne_f (rfl : ((.ref a_DeletionRule_DETACH) : Value) = (.ref a_DeletionRule_DETACH)))) ?_
          show Ends p e below s _ _ _ T258 (mkF m 142 #[.val (.int i0), .val (.int ((i0 &&& (2147483647 : Int32)) % (5 : Int32))), .val (.int (110 : Int32)), .val (.ref a_DeleteAction_SET_NULL), .val (.ref a_DeletionRule_DETACH), .val (.ref a240), .val (.ref a244), .val (.ref a_DeleteAction_SET_NULL)] [])
          refine go (fun _ => XT.iconstV X258.here hx rfl (1 : Int32) (hb hby at_142) (by decide)) ?_
          show Ends p e below s _ _ _ T258 (mkF m 143 #[.val (.int i0), .val (.int ((i0 &&& (2147483647 : Int32)) % (5 : Int32))), .val (.int (110 : Int32)), .val (.ref a_DeleteAction_SET_NULL), .val (.ref a_DeletionRule_DETACH), .val (.ref a240), .val (.ref a244), .val (.ref a_DeleteAction_SET_NULL)] [(.int (1 : Int32))])
          refine go (fun _ => XS.goto X258.here hx rfl (pc0 := 143) (pc' := 147) rfl (hb hby at_143) (by decide) (by decide)) ?_
          show Ends p e below s _ _ _ T258 (mkF m 147 #[.val (.int i0), .val (.int ((i0 &&& (2147483647 : Int32)) % (5 : Int32))), .val (.int (110 : Int32)), .val (.ref a_DeleteAction_SET_NULL), .val (.ref a_DeletionRule_DETACH), .val (.ref a240), .val (.ref a244), .val (.ref a_DeleteAction_SET_NULL)] [(.int (1 : Int32))])
          exact endN X258 hx hlk hret (by simp) (hb hby at_147) e258 ⟨rfl, N258a⟩ (by decide) (by decide)
        · refine go (fun _ => XS.icmpYes X0.here hx rfl (pc0 := 68) (pc' := 86) rfl (hb hby at_68) rfl (XT.ii_ne_t c68_237) (by decide) (by decide)) ?_
          show Ends p e below s _ _ _ T0 (mkF m 86 #[.val (.int i0), .val (.int ((i0 &&& (2147483647 : Int32)) % (5 : Int32))), .unset, .unset, .unset, .unset, .unset, .unset] [])
          refine go (fun _ => XT.bipushV X0.here hx rfl (100 : Int32) (hb hby at_86) (by decide)) ?_
          show Ends p e below s _ _ _ T0 (mkF m 88 #[.val (.int i0), .val (.int ((i0 &&& (2147483647 : Int32)) % (5 : Int32))), .unset, .unset, .unset, .unset, .unset, .unset] [(.int (100 : Int32))])
          refine go (fun _ => XS.istoreN X0.here hx rfl (hb hby at_88) rfl (l' := #[.val (.int i0), .val (.int ((i0 &&& (2147483647 : Int32)) % (5 : Int32))), .val (.int (100 : Int32)), .unset, .unset, .unset, .unset, .unset]) rfl) ?_
          show Ends p e below s _ _ _ T0 (mkF m 89 #[.val (.int i0), .val (.int ((i0 &&& (2147483647 : Int32)) % (5 : Int32))), .val (.int (100 : Int32)), .unset, .unset, .unset, .unset, .unset] [])
          obtain ⟨T259, X259, e259, s259⟩ := getS2 X0 hx hZ hown (host := "") (Or.inl (hw _ (List.mem_of_getElem? (i := 82) rfl))) Via.refl e0 (Sta.ext O0 ft_30) (g := (mkF m 89 #[.val (.int i0), .val (.int ((i0 &&& (2147483647 : Int32)) % (5 : Int32))), .val (.int (100 : Int32)), .unset, .unset, .unset, .unset, .unset] [])) rfl (hb hby at_89)
          refine go s259 ?_
          show Ends p e below s _ _ _ T259 (mkF m 92 #[.val (.int i0), .val (.int ((i0 &&& (2147483647 : Int32)) % (5 : Int32))), .val (.int (100 : Int32)), .unset, .unset, .unset, .unset, .unset] [(.ref a_DeleteAction_SET_DEFAULT)])
          refine go (fun _ => XS.astoreN X259.here hx rfl (hb hby at_92) rfl rfl (l' := #[.val (.int i0), .val (.int ((i0 &&& (2147483647 : Int32)) % (5 : Int32))), .val (.int (100 : Int32)), .val (.ref a_DeleteAction_SET_DEFAULT), .unset, .unset, .unset, .unset]) rfl) ?_
          show Ends p e below s _ _ _ T259 (mkF m 93 #[.val (.int i0), .val (.int ((i0 &&& (2147483647 : Int32)) % (5 : Int32))), .val (.int (100 : Int32)), .val (.ref a_DeleteAction_SET_DEFAULT), .unset, .unset, .unset, .unset] [])
          obtain ⟨T260, X260, e260, s260⟩ := getS2 X259 hx hZ hown (host := "") (Or.inl (hw _ (List.mem_of_getElem? (i := 79) rfl))) Via.refl e259 (Sta.ext O0 ft_48) (g := (mkF m 93 #[.val (.int i0), .val (.int ((i0 &&& (2147483647 : Int32)) % (5 : Int32))), .val (.int (100 : Int32)), .val (.ref a_DeleteAction_SET_DEFAULT), .unset, .unset, .unset, .unset] [])) rfl (hb hby at_93)
          refine go s260 ?_
          show Ends p e below s _ _ _ T260 (mkF m 96 #[.val (.int i0), .val (.int ((i0 &&& (2147483647 : Int32)) % (5 : Int32))), .val (.int (100 : Int32)), .val (.ref a_DeleteAction_SET_DEFAULT), .unset, .unset, .unset, .unset] [(.ref a_DeletionRule_DETACH)])
          refine go (fun _ => XS.astore X260.here hx rfl (hb hby at_96) rfl rfl (l' := #[.val (.int i0), .val (.int ((i0 &&& (2147483647 : Int32)) % (5 : Int32))), .val (.int (100 : Int32)), .val (.ref a_DeleteAction_SET_DEFAULT), .val (.ref a_DeletionRule_DETACH), .unset, .unset, .unset]) rfl) ?_
          show Ends p e below s _ _ _ T260 (mkF m 98 #[.val (.int i0), .val (.int ((i0 &&& (2147483647 : Int32)) % (5 : Int32))), .val (.int (100 : Int32)), .val (.ref a_DeleteAction_SET_DEFAULT), .val (.ref a_DeletionRule_DETACH), .unset, .unset, .unset] [])
          refine go (fun _ => XT.iconstV X260.here hx rfl (1 : Int32) (hb hby at_98) (by decide)) ?_
          show Ends p e below s _ _ _ T260 (mkF m 99 #[.val (.int i0), .val (.int ((i0 &&& (2147483647 : Int32)) % (5 : Int32))), .val (.int (100 : Int32)), .val (.ref a_DeleteAction_SET_DEFAULT), .val (.ref a_DeletionRule_DETACH), .unset, .unset, .unset] [(.int (1 : Int32))])
          obtain ⟨T261, h261, k261, X261, e261, E261, A261, s261⟩ := newP X260 hx hZ (hw _ (List.mem_of_getElem? (i := 7) rfl)) e260 (g := (mkF m 99 #[.val (.int i0), .val (.int ((i0 &&& (2147483647 : Int32)) % (5 : Int32))), .val (.int (100 : Int32)), .val (.ref a_DeleteAction_SET_DEFAULT), .val (.ref a_DeletionRule_DETACH), .unset, .unset, .unset] [(.int (1 : Int32))])) rfl (hb hby at_99) rfl (by decide) (cap := 1) (by decide) (by decide) (by decide) (by decide)
          obtain ⟨a261, g261⟩ : ∃ z : Addr, z = h0.size := ⟨_, rfl⟩
          have f261 : Z.heap.size ≤ a261 := by rw [g261]; exact (O0).1
          rw [← g261] at A261 s261
          have O262 : Ext Z.heap h261 := xx O0 E261
          have V261 : Arv Z h261 a261 k261 .char (1 : Int32) [(.int (0 : Int32))] (.int 0) := Arv.pad (Arv.new A261 (by decide)) (pad_rep [] _ 1)
          refine go s261 ?_
          show Ends p e below s _ _ _ T261 (mkF m 101 #[.val (.int i0), .val (.int ((i0 &&& (2147483647 : Int32)) % (5 : Int32))), .val (.int (100 : Int32)), .val (.ref a_DeleteAction_SET_DEFAULT), .val (.ref a_DeletionRule_DETACH), .unset, .unset, .unset] [(.ref a261)])
          refine go (fun _ => XS.astore X261.here hx rfl (hb hby at_101) rfl rfl (l' := #[.val (.int i0), .val (.int ((i0 &&& (2147483647 : Int32)) % (5 : Int32))), .val (.int (100 : Int32)), .val (.ref a_DeleteAction_SET_DEFAULT), .val (.ref a_DeletionRule_DETACH), .val (.ref a261), .unset, .unset]) rfl) ?_
          show Ends p e below s _ _ _ T261 (mkF m 103 #[.val (.int i0), .val (.int ((i0 &&& (2147483647 : Int32)) % (5 : Int32))), .val (.int (100 : Int32)), .val (.ref a_DeleteAction_SET_DEFAULT), .val (.ref a_DeletionRule_DETACH), .val (.ref a261), .unset, .unset] [])
          refine go (fun _ => XS.aload X261.here hx rfl (hb hby at_103) rfl rfl) ?_
          show Ends p e below s _ _ _ T261 (mkF m 105 #[.val (.int i0), .val (.int ((i0 &&& (2147483647 : Int32)) % (5 : Int32))), .val (.int (100 : Int32)), .val (.ref a_DeleteAction_SET_DEFAULT), .val (.ref a_DeletionRule_DETACH), .val (.ref a261), .unset, .unset] [(.ref a261)])
          refine go (fun _ => XT.iconstV X261.here hx rfl (0 : Int32) (hb hby at_105) (by decide)) ?_
          show Ends p e below s _ _ _ T261 (mkF m 106 #[.val (.int i0), .val (.int ((i0 &&& (2147483647 : Int32)) % (5 : Int32))), .val (.int (100 : Int32)), .val (.ref a_DeleteAction_SET_DEFAULT), .val (.ref a_DeletionRule_DETACH), .val (.ref a261), .unset, .unset] [(.int (0 : Int32)), (.ref a261)])
          refine go (fun _ => XS.iloadN X261.here hx rfl (hb hby at_106) rfl) ?_
          show Ends p e below s _ _ _ T261 (mkF m 107 #[.val (.int i0), .val (.int ((i0 &&& (2147483647 : Int32)) % (5 : Int32))), .val (.int (100 : Int32)), .val (.ref a_DeleteAction_SET_DEFAULT), .val (.ref a_DeletionRule_DETACH), .val (.ref a261), .unset, .unset] [(.int (100 : Int32)), (.int (0 : Int32)), (.ref a261)])
          obtain ⟨c263, A263, q263, S263, M263, H263, G263⟩ := id V261
          obtain ⟨T263, h263, X263, e263, W263, s263⟩ := stC X261 hx hZ e261 A263 (j := (0 : Int32)) (inb_of S263 (by decide)) (g := (mkF m 107 #[.val (.int i0), .val (.int ((i0 &&& (2147483647 : Int32)) % (5 : Int32))), .val (.int (100 : Int32)), .val (.ref a_DeleteAction_SET_DEFAULT), .val (.ref a_DeletionRule_DETACH), .val (.ref a261), .unset, .unset] [(.int (100 : Int32)), (.int (0 : Int32)), (.ref a261)])) rfl rfl (hb hby at_107)
          have r263 : nar .char (100 : Int32) = (100 : Int32) := (by decide)
          rw [r263] at W263
          have N263 := Fr.snoc X263 (Fr.nil _) f261
          have O264 : Ext Z.heap h263 := xw O262 W263 f261
          have V263 : Arv Z h263 a261 k261 .char (1 : Int32) [(.int (100 : Int32))] (.int 0) := Arv.set A263 q263 S263 M263 H263 G263 (by first | rfl | exact fits_nar_char (100 : Int32) | (rw [← r263]; exact fits_nar_char (100 : Int32))) W263 0 (by decide) (by decide)
          refine go s263 ?_
          show Ends p e below s _ _ _ T263 (mkF m 108 #[.val (.int i0), .val (.int ((i0 &&& (2147483647 : Int32)) % (5 : Int32))), .val (.int (100 : Int32)), .val (.ref a_DeleteAction_SET_DEFAULT), .val (.ref a_DeletionRule_DETACH), .val (.ref a261), .unset, .unset] [])
          obtain ⟨T265, h265, X265, e265, E265, A265, D265, U265, s265⟩ := newO X263 hx hZ hown (hw _ (List.mem_of_getElem? (i := 8) rfl)) (hw _ (List.mem_of_getElem? (i := 9) rfl)) (hw _ (List.mem_of_getElem? (i := 10) rfl)) e263 (g := (mkF m 108 #[.val (.int i0), .val (.int ((i0 &&& (2147483647 : Int32)) % (5 : Int32))), .val (.int (100 : Int32)), .val (.ref a_DeleteAction_SET_DEFAULT), .val (.ref a_DeletionRule_DETACH), .val (.ref a261), .unset, .unset] [])) rfl (hb hby at_108) (by decide) (by decide)
          obtain ⟨a265, g265⟩ : ∃ z : Addr, z = h263.size := ⟨_, rfl⟩
          have n266 : a261 ≠ a265 := fun q => absurd (V263.lt) (by rw [q, g265]; exact Nat.lt_irrefl _)
          have f265 : Z.heap.size ≤ a265 := by rw [g265]; exact (O264).1
          rw [← g265] at A265 D265 U265 s265
          have O267 : Ext Z.heap h265 := xx O264 E265
          refine go s265 ?_
          show Ends p e below s _ _ _ T265 (mkF m 111 #[.val (.int i0), .val (.int ((i0 &&& (2147483647 : Int32)) % (5 : Int32))), .val (.int (100 : Int32)), .val (.ref a_DeleteAction_SET_DEFAULT), .val (.ref a_DeletionRule_DETACH), .val (.ref a261), .unset, .unset] [(.ref a265)])
          refine go (fun _ => XS.dup X265.here hx rfl (hb hby at_111) rfl rfl) ?_
          show Ends p e below s _ _ _ T265 (mkF m 112 #[.val (.int i0), .val (.int ((i0 &&& (2147483647 : Int32)) % (5 : Int32))), .val (.int (100 : Int32)), .val (.ref a_DeleteAction_SET_DEFAULT), .val (.ref a_DeletionRule_DETACH), .val (.ref a261), .unset, .unset] [(.ref a265), (.ref a265)])
          refine go (fun _ => XS.aload X265.here hx rfl (hb hby at_112) rfl rfl) ?_
          show Ends p e below s _ _ _ T265 (mkF m 114 #[.val (.int i0), .val (.int ((i0 &&& (2147483647 : Int32)) % (5 : Int32))), .val (.int (100 : Int32)), .val (.ref a_DeleteAction_SET_DEFAULT), .val (.ref a_DeletionRule_DETACH), .val (.ref a261), .unset, .unset] [(.ref a261), (.ref a265), (.ref a265)])
          have F268 := (D265 (Or.inr (hw _ (List.mem_of_getElem? (i := 36) rfl))) (ty := (.array .byte)) (by decide))
          have F269 := (D265 (Or.inr (hw _ (List.mem_of_getElem? (i := 34) rfl))) (ty := .byte) (by decide))
          have F270 := (Arv.ext V263 E265)
          refine cInit X265 hx hZ hown (by rw [hml]; rfl) e265 (hw _ (List.mem_of_getElem? (i := 11) rfl)) (hw _ (List.mem_of_getElem? (i := 12) rfl)) (hw _ (List.mem_of_getElem? (i := 10) rfl)) (hw _ (List.mem_of_getElem? (i := 13) rfl)) a265 [(.ref a261)] [(.ref a265)] rfl (rm_new1_1 hw a265 a261 k261 (100 : Int32) _ O267 f265 (Ne.symm n266) A265 F268 F269 cz SCS hcz F270 (by decide)) (hb hby at_114) rfl (lenOf pd_12 rfl) rfl (by decide) (by decide) (Nat.le_of_ble_eq_true rfl) (by decide) (by decide) ?_
          rintro v271 T271 h271 L271 X271 e271 ⟨b271, k271, rfl, N271, K271, g271, Fv271, Fc271, V271⟩
          have N271a := Fr.app N263 N271
          have n272 : a261 ≠ b271 := Nat.ne_of_lt (Nat.lt_of_lt_of_le (F270.lt) g271)
          have n273 : a265 ≠ b271 := Nat.ne_of_lt (Nat.lt_of_lt_of_le (A265.lt) g271)
          have f274 : Z.heap.size ≤ b271 := Nat.le_trans (O267).1 g271
          have O275 : Ext Z.heap h271 := xk O267 K271 (allS f265 all0)
          have Vl271 : Arv Z h271 b271 k271 .byte (1 : Int32) [(.int (100 : Int32))] (.int 0) := V271
          show Ends p e below s _ _ _ T271 (mkF m 117 #[.val (.int i0), .val (.int ((i0 &&& (2147483647 : Int32)) % (5 : Int32))), .val (.int (100 : Int32)), .val (.ref a_DeleteAction_SET_DEFAULT), .val (.ref a_DeletionRule_DETACH), .val (.ref a261), .unset, .unset] [(.ref a265)])
          refine go (fun _ => XS.astore X271.here hx rfl (hb hby at_117) rfl rfl (l' := #[.val (.int i0), .val (.int ((i0 &&& (2147483647 : Int32)) % (5 : Int32))), .val (.int (100 : Int32)), .val (.ref a_DeleteAction_SET_DEFAULT), .val (.ref a_DeletionRule_DETACH), .val (.ref a261), .val (.ref a265), .unset]) rfl) ?_
          show Ends p e below s _ _ _ T271 (mkF m 119 #[.val (.int i0), .val (.int ((i0 &&& (2147483647 : Int32)) % (5 : Int32))), .val (.int (100 : Int32)), .val (.ref a_DeleteAction_SET_DEFAULT), .val (.ref a_DeletionRule_DETACH), .val (.ref a261), .val (.ref a265), .unset] [])
          refine go (fun _ => XS.aload X271.here hx rfl (hb hby at_119) rfl rfl) ?_
          show Ends p e below s _ _ _ T271 (mkF m 121 #[.val (.int i0), .val (.int ((i0 &&& (2147483647 : Int32)) % (5 : Int32))), .val (.int (100 : Int32)), .val (.ref a_DeleteAction_SET_DEFAULT), .val (.ref a_DeletionRule_DETACH), .val (.ref a261), .val (.ref a265), .unset] [(.ref a265)])
          have F276 := (Exa.keep A265 K271)
          refine cStat X271 hx hZ hown (by rw [hml]; rfl) e271 (hw _ (List.mem_of_getElem? (i := 37) rfl)) (hw _ (List.mem_of_getElem? (i := 38) rfl)) (hw _ (List.mem_of_getElem? (i := 2) rfl)) (hw _ (List.mem_of_getElem? (i := 39) rfl)) [(.ref a265)] [] rfl (rm_from_100 hw a265 b271 k271 a_DeleteAction_NO_ACTION a_DeletionRule_RESTRICT a_DeleteAction__VALUES a_DeleteAction_RESTRICT a_DeleteAction_CASCADE a_DeleteAction_SET_NULL a_DeleteAction_SET_DEFAULT a_DeleteAction_NO_ACTION_catalogCode a_DeleteAction_NO_ACTION_catalogCode_value a_DeletionRule_DETACH a_DeleteAction_RESTRICT_catalogCode a_DeleteAction_RESTRICT_catalogCode_value a_DeleteAction_CASCADE_catalogCode a_DeleteAction_CASCADE_catalogCode_value a_DeleteAction_SET_NULL_catalogCode a_DeleteAction_SET_NULL_catalogCode_value a_DeleteAction_SET_DEFAULT_catalogCode a_DeleteAction_SET_DEFAULT_catalogCode_value a_DeletionRule_CASCADE k_a_DeleteAction__VALUES k_a_DeleteAction_NO_ACTION_catalogCode_value k_a_DeleteAction_RESTRICT_catalogCode_value k_a_DeleteAction_CASCADE_catalogCode_value k_a_DeleteAction_SET_NULL_catalogCode_value k_a_DeleteAction_SET_DEFAULT_catalogCode_value _ O275 cz SCS hcz ft_2 ft_5 ft_8 ft_15 ft_20 ft_25 ft_30 ft_48 ft_101 ex_3 ex_6 ex_10 ex_16 ex_21 ex_26 ex_31 ex_36 ex_49 ex_52 ex_63 ex_74 ex_89 ex_102 ft_35 ft_38 ft_40 ft_46 ft_51 ft_54 ft_56 ft_62 ft_65 ft_67 ft_73 ft_76 ft_78 ft_84 ft_86 ft_88 ft_91 ft_93 ft_99 ft_104 av_105 av_106 av_107 av_108 av_109 av_110 f265 F276 Fv271 Fc271 Vl271) (hb hby at_121) rfl (lenOf pd_13 rfl) (by decide) (by decide) (Nat.le_of_ble_eq_true rfl) (by decide) (by decide) ?_
          rintro v277 T277 h277 L277 X277 e277 ⟨rfl, N277, K277⟩
          have N277a := Fr.app N271a N277
          have O278 : Ext Z.heap h277 := xk O275 K277 all0
          show Ends p e below s _ _ _ T277 (mkF m 124 #[.val (.int i0), .val (.int ((i0 &&& (2147483647 : Int32)) % (5 : Int32))), .val (.int (100 : Int32)), .val (.ref a_DeleteAction_SET_DEFAULT), .val (.ref a_DeletionRule_DETACH), .val (.ref a261), .val (.ref a265), .unset] [(.ref a_DeleteAction_SET_DEFAULT)])
          refine go (fun _ => XS.astore X277.here hx rfl (hb hby at_124) rfl rfl (l' := #[.val (.int i0), .val (.int ((i0 &&& (2147483647 : Int32)) % (5 : Int32))), .val (.int (100 : Int32)), .val (.ref a_DeleteAction_SET_DEFAULT), .val (.ref a_DeletionRule_DETACH), .val (.ref a261), .val (.ref a265), .val (.ref a_DeleteAction_SET_DEFAULT)]) rfl) ?_
          show Ends p e below s _ _ _ T277 (mkF m 126 #[.val (.int i0), .val (.int ((i0 &&& (2147483647 : Int32)) % (5 : Int32))), .val (.int (100 : Int32)), .val (.ref a_DeleteAction_SET_DEFAULT), .val (.ref a_DeletionRule_DETACH), .val (.ref a261), .val (.ref a265), .val (.ref a_DeleteAction_SET_DEFAULT)] [])
          refine go (fun _ => XS.aload X277.here hx rfl (hb hby at_126) rfl rfl) ?_
          show Ends p e below s _ _ _ T277 (mkF m 128 #[.val (.int i0), .val (.int ((i0 &&& (2147483647 : Int32)) % (5 : Int32))), .val (.int (100 : Int32)), .val (.ref a_DeleteAction_SET_DEFAULT), .val (.ref a_DeletionRule_DETACH), .val (.ref a261), .val (.ref a265), .val (.ref a_DeleteAction_SET_DEFAULT)] [(.ref a_DeleteAction_SET_DEFAULT)])
          refine go (fun _ => XS.aloadN X277.here hx rfl (hb hby at_128) rfl rfl) ?_
          show Ends p e below s _ _ _ T277 (mkF m 129 #[.val (.int i0), .val (.int ((i0 &&& (2147483647 : Int32)) % (5 : Int32))), .val (.int (100 : Int32)), .val (.ref a_DeleteAction_SET_DEFAULT), .val (.ref a_DeletionRule_DETACH), .val (.ref a261), .val (.ref a265), .val (.ref a_DeleteAction_SET_DEFAULT)] [(.ref a_DeleteAction_SET_DEFAULT), (.ref a_DeleteAction_SET_DEFAULT)])
          refine go (fun _ => XT.acmpNo X277.here hx rfl (hb hby at_129) rfl rfl rfl (XT.aa_ne_f (rfl : ((.ref a_DeleteAction_SET_DEFAULT) : Value) = (.ref a_DeleteAction_SET_DEFAULT)))) ?_
          show Ends p e below s _ _ _ T277 (mkF m 132 #[.val (.int i0), .val (.int ((i0 &&& (2147483647 : Int32)) % (5 : Int32))), .val (.int (100 : Int32)), .val (.ref a_DeleteAction_SET_DEFAULT), .val (.ref a_DeletionRule_DETACH), .val (.ref a261), .val (.ref a265), .val (.ref a_DeleteAction_SET_DEFAULT)] [])
          refine go (fun _ => XS.aload X277.here hx rfl (hb hby at_132) rfl rfl) ?_
          show Ends p e below s _ _ _ T277 (mkF m 134 #[.val (.int i0), .val (.int ((i0 &&& (2147483647 : Int32)) % (5 : Int32))), .val (.int (100 : Int32)), .val (.ref a_DeleteAction_SET_DEFAULT), .val (.ref a_DeletionRule_DETACH), .val (.ref a261), .val (.ref a265), .val (.ref a_DeleteAction_SET_DEFAULT)] [(.ref a_DeleteAction_SET_DEFAULT)])
          refine cVirt X277 hx hZ hown (by rw [hml]; rfl) e277 (hw _ (List.mem_of_getElem? (i := 71) rfl)) (hw _ (List.mem_of_getElem? (i := 72) rfl)) (hw _ (List.mem_of_getElem? (i := 74) rfl)) (hw _ (List.mem_of_getElem? (i := 73) rfl)) (hw _ (List.mem_of_getElem? (i := 2) rfl)) (hw _ (List.mem_of_getElem? (i := 75) rfl)) (notFace_of_selects (args := #[]) (mvT hZ (hw _ (List.mem_of_getElem? (i := 74) rfl)))) a_DeleteAction_SET_DEFAULT (Exa.ext O278 ex_31) [] [] rfl (rm_rule hw a_DeleteAction_SET_DEFAULT a_DeletionRule_DETACH _ (Fld.ext O278 ft_99)) (hb hby at_134) rfl (lenOf pd_14 rfl) (by decide) (by decide) (Nat.le_of_ble_eq_true rfl) (by decide) (by decide) ?_
          rintro v279 T279 h279 L279 X279 e279 ⟨rfl, N279, rfl⟩
          have N279a := Fr.app N277a N279
          show Ends p e below s _ _ _ T279 (mkF m 137 #[.val (.int i0), .val (.int ((i0 &&& (2147483647 : Int32)) % (5 : Int32))), .val (.int (100 : Int32)), .val (.ref a_DeleteAction_SET_DEFAULT), .val (.ref a_DeletionRule_DETACH), .val (.ref a261), .val (.ref a265), .val (.ref a_DeleteAction_SET_DEFAULT)] [(.ref a_DeletionRule_DETACH)])
          refine go (fun _ => XS.aload X279.here hx rfl (hb hby at_137) rfl rfl) ?_
          show Ends p e below s _ _ _ T279 (mkF m 139 #[.val (.int i0), .val (.int ((i0 &&& (2147483647 : Int32)) % (5 : Int32))), .val (.int (100 : Int32)), .val (.ref a_DeleteAction_SET_DEFAULT), .val (.ref a_DeletionRule_DETACH), .val (.ref a261), .val (.ref a265), .val (.ref a_DeleteAction_SET_DEFAULT)] [(.ref a_DeletionRule_DETACH), (.ref a_DeletionRule_DETACH)])
          refine go (fun _ => XT.acmpNo X279.here hx rfl (hb hby at_139) rfl rfl rfl (XT.aa_ne_f (rfl : ((.ref a_DeletionRule_DETACH) : Value) = (.ref a_DeletionRule_DETACH)))) ?_
          show Ends p e below s _ _ _ T279 (mkF m 142 #[.val (.int i0), .val (.int ((i0 &&& (2147483647 : Int32)) % (5 : Int32))), .val (.int (100 : Int32)), .val (.ref a_DeleteAction_SET_DEFAULT), .val (.ref a_DeletionRule_DETACH), .val (.ref a261), .val (.ref a265), .val (.ref a_DeleteAction_SET_DEFAULT)] [])
          refine go (fun _ => XT.iconstV X279.here hx rfl (1 : Int32) (hb hby at_142) (by decide)) ?_
          show Ends p e below s _ _ _ T279 (mkF m 143 #[.val (.int i0), .val (.int ((i0 &&& (2147483647 : Int32)) % (5 : Int32))), .val (.int (100 : Int32)), .val (.ref a_DeleteAction_SET_DEFAULT), .val (.ref a_DeletionRule_DETACH), .val (.ref a261), .val (.ref a265), .val (.ref a_DeleteAction_SET_DEFAULT)] [(.int (1 : Int32))])
          refine go (fun _ => XS.goto X279.here hx rfl (pc0 := 143) (pc' := 147) rfl (hb hby at_143) (by decide) (by decide)) ?_
          show Ends p e below s _ _ _ T279 (mkF m 147 #[.val (.int i0), .val (.int ((i0 &&& (2147483647 : Int32)) % (5 : Int32))), .val (.int (100 : Int32)), .val (.ref a_DeleteAction_SET_DEFAULT), .val (.ref a_DeletionRule_DETACH), .val (.ref a261), .val (.ref a265), .val (.ref a_DeleteAction_SET_DEFAULT)] [(.int (1 : Int32))])
          exact endN X279 hx hlk hret (by simp) (hb hby at_147) e279 ⟨rfl, N279a⟩ (by decide) (by decide)
set_option maxRecDepth 65536 in
set_option maxHeartbeats 40000000 in
theorem comes_1 {Post : Tables → Env → Array Value → State → Outcome → State → Prop} (hpost : ∀ tb e args s v u, (limb_1_1.after args s (.returned v) u = true ∧ limb_1_2.after args s (.returned v) u = true ∧ True) → FrameEnd s (.returned v) u (Jvm.fieldLocs frame_1_writes args s ++ Jvm.arrayLocs frame_1_arrays args s ++ Jvm.staticLocs frame_1_statics s) 16 128 → Post tb e args s (.returned v) u) :
    ArmFor flags0 classFile x code maxLocals ret World_1 tables_1 room_1 Calls_1 rest_1 Pre_1 Post := by
  intro l hfl _ _ p e ha hc hk s m args below hf hA hF happ hP
  obtain ⟨hcalls, hrest, hpre⟩ := hP
  obtain ⟨-, -, -, hnamed, -, -, -, hat⟩ := (Spec.applies_iff hf).mp happ
  obtain ⟨hg, hn⟩ := and_e (Cond.before_iff.mp (show (Jvm.Cond.and given_1 narrow_1).before args s = true from hpre))
  obtain ⟨gv0, gv1⟩ := and_e hg
  obtain ⟨w0, rfl⟩ : ∃ w0 : Value, args = #[w0] := by
    have hs : args.size = 1 := by simpa [Cond.value, given_1] using gv0
    obtain ⟨L⟩ := args
    match L, hs with
    | [w0], _ => exact ⟨w0, rfl⟩
  have hw := fun d (hd : d ∈ tables_1) => atoms_spec (ws := Jvm.Cond.code x code maxLocals ret :: tables_1) hat d (List.mem_cons_of_mem _ hd)
  have hfit : Fit s := fun {y c} hc i hi => by
    obtain ⟨ha, rfl⟩ := Array.getElem?_eq_some_iff.mp hc
    have q := List.all_eq_true.mp ((Array.all_eq_true_iff_forall_mem.mp hF) _ (Array.getElem_mem ha)) i (List.mem_range.mpr hi)
    simpa [Array.getElem?_eq_getElem hi] using q
  obtain ⟨hsets, hown0⟩ := atoms_of _ (rest_1_c_eq ▸ (show rest_1_c.before _ s = true from hrest))
  obtain ⟨i0, ei0⟩ := is_v gv1
  obtain rfl : w0 = (.int i0) := Option.some.inj ei0
  obtain ⟨nr0, nrtr⟩ := and_e hn
  obtain ⟨nr1, nrtrr⟩ := and_e nrtr
  obtain ⟨nr2, nrtrrr⟩ := and_e nrtrr
  obtain ⟨nr3, nrtrrrr⟩ := and_e nrtrrr
  obtain ⟨nr4, nrtrrrrr⟩ := and_e nrtrrrr
  obtain ⟨nr5, nrtrrrrrr⟩ := and_e nrtrrrrr
  obtain ⟨nr6, nrtrrrrrrr⟩ := and_e nrtrrrrrr
  obtain ⟨nr7, nrtrrrrrrrr⟩ := and_e nrtrrrrrrr
  obtain ⟨nr8, nrtrrrrrrrrr⟩ := and_e nrtrrrrrrrr
  obtain ⟨nr9, nrtrrrrrrrrrr⟩ := and_e nrtrrrrrrrrr
  obtain ⟨nr10, nrtrrrrrrrrrrr⟩ := and_e nrtrrrrrrrrrr
  obtain ⟨nr11, nrtrrrrrrrrrrrr⟩ := and_e nrtrrrrrrrrrrr
  obtain ⟨nr12, nrtrrrrrrrrrrrrr⟩ := and_e nrtrrrrrrrrrrrr
  obtain ⟨nr13, nrtrrrrrrrrrrrrrr⟩ := and_e nrtrrrrrrrrrrrrr
  obtain ⟨nr14, nrtrrrrrrrrrrrrrrr⟩ := and_e nrtrrrrrrrrrrrrrr
  obtain ⟨nr15, nrtrrrrrrrrrrrrrrrr⟩ := and_e nrtrrrrrrrrrrrrrrr
  obtain ⟨nr16, nrtrrrrrrrrrrrrrrrrr⟩ := and_e nrtrrrrrrrrrrrrrrrr
  obtain ⟨nr17, nrtrrrrrrrrrrrrrrrrrr⟩ := and_e nrtrrrrrrrrrrrrrrrrr
  obtain ⟨nr18, nrtrrrrrrrrrrrrrrrrrrr⟩ := and_e nrtrrrrrrrrrrrrrrrrrr
  obtain ⟨nr19, nrtrrrrrrrrrrrrrrrrrrrr⟩ := and_e nrtrrrrrrrrrrrrrrrrrrr
  obtain ⟨nr20, nrtrrrrrrrrrrrrrrrrrrrrr⟩ := and_e nrtrrrrrrrrrrrrrrrrrrrr
  obtain ⟨nr21, nrtrrrrrrrrrrrrrrrrrrrrrr⟩ := and_e nrtrrrrrrrrrrrrrrrrrrrrr
  obtain ⟨nr22, nrtrrrrrrrrrrrrrrrrrrrrrrr⟩ := and_e nrtrrrrrrrrrrrrrrrrrrrrrr
  obtain ⟨nr23, nrtrrrrrrrrrrrrrrrrrrrrrrrr⟩ := and_e nrtrrrrrrrrrrrrrrrrrrrrrrr
  obtain ⟨nr24, nrtrrrrrrrrrrrrrrrrrrrrrrrrr⟩ := and_e nrtrrrrrrrrrrrrrrrrrrrrrrrr
  obtain ⟨nr25, nrtrrrrrrrrrrrrrrrrrrrrrrrrrr⟩ := and_e nrtrrrrrrrrrrrrrrrrrrrrrrrrr
  obtain ⟨nr26, nrtrrrrrrrrrrrrrrrrrrrrrrrrrrr⟩ := and_e nrtrrrrrrrrrrrrrrrrrrrrrrrrrr
  obtain ⟨nr27, nrtrrrrrrrrrrrrrrrrrrrrrrrrrrrr⟩ := and_e nrtrrrrrrrrrrrrrrrrrrrrrrrrrrr
  obtain ⟨nr28, nrtrrrrrrrrrrrrrrrrrrrrrrrrrrrrr⟩ := and_e nrtrrrrrrrrrrrrrrrrrrrrrrrrrrrr
  obtain ⟨nr29, nrtrrrrrrrrrrrrrrrrrrrrrrrrrrrrrr⟩ := and_e nrtrrrrrrrrrrrrrrrrrrrrrrrrrrrrr
  obtain ⟨nr30, nrtrrrrrrrrrrrrrrrrrrrrrrrrrrrrrrr⟩ := and_e nrtrrrrrrrrrrrrrrrrrrrrrrrrrrrrrr
  obtain ⟨nr31, nrtrrrrrrrrrrrrrrrrrrrrrrrrrrrrrrrr⟩ := and_e nrtrrrrrrrrrrrrrrrrrrrrrrrrrrrrrrr
  obtain ⟨nr32, nrtrrrrrrrrrrrrrrrrrrrrrrrrrrrrrrrrr⟩ := and_e nrtrrrrrrrrrrrrrrrrrrrrrrrrrrrrrrrr
  obtain ⟨nr33, nrtrrrrrrrrrrrrrrrrrrrrrrrrrrrrrrrrrr⟩ := and_e nrtrrrrrrrrrrrrrrrrrrrrrrrrrrrrrrrrr
  obtain ⟨nr34, nrtrrrrrrrrrrrrrrrrrrrrrrrrrrrrrrrrrrr⟩ := and_e nrtrrrrrrrrrrrrrrrrrrrrrrrrrrrrrrrrrr
  obtain ⟨nr35, nrtrrrrrrrrrrrrrrrrrrrrrrrrrrrrrrrrrrrr⟩ := and_e nrtrrrrrrrrrrrrrrrrrrrrrrrrrrrrrrrrrrr
  obtain ⟨nr36, nrtrrrrrrrrrrrrrrrrrrrrrrrrrrrrrrrrrrrrr⟩ := and_e nrtrrrrrrrrrrrrrrrrrrrrrrrrrrrrrrrrrrrr
  obtain ⟨nr37, nrtrrrrrrrrrrrrrrrrrrrrrrrrrrrrrrrrrrrrrr⟩ := and_e nrtrrrrrrrrrrrrrrrrrrrrrrrrrrrrrrrrrrrrr
  obtain ⟨nr38, nrtrrrrrrrrrrrrrrrrrrrrrrrrrrrrrrrrrrrrrrr⟩ := and_e nrtrrrrrrrrrrrrrrrrrrrrrrrrrrrrrrrrrrrrrr
  obtain ⟨nr39, nrtrrrrrrrrrrrrrrrrrrrrrrrrrrrrrrrrrrrrrrrr⟩ := and_e nrtrrrrrrrrrrrrrrrrrrrrrrrrrrrrrrrrrrrrrrr
  obtain ⟨nr40, nrtrrrrrrrrrrrrrrrrrrrrrrrrrrrrrrrrrrrrrrrrr⟩ := and_e nrtrrrrrrrrrrrrrrrrrrrrrrrrrrrrrrrrrrrrrrrr
  obtain ⟨nr41, nrtrrrrrrrrrrrrrrrrrrrrrrrrrrrrrrrrrrrrrrrrrr⟩ := and_e nrtrrrrrrrrrrrrrrrrrrrrrrrrrrrrrrrrrrrrrrrrr
  obtain ⟨nr42, nrtrrrrrrrrrrrrrrrrrrrrrrrrrrrrrrrrrrrrrrrrrrr⟩ := and_e nrtrrrrrrrrrrrrrrrrrrrrrrrrrrrrrrrrrrrrrrrrrr
  obtain ⟨nr43, nrtrrrrrrrrrrrrrrrrrrrrrrrrrrrrrrrrrrrrrrrrrrrr⟩ := and_e nrtrrrrrrrrrrrrrrrrrrrrrrrrrrrrrrrrrrrrrrrrrrr
  obtain ⟨nr44, nr45⟩ := and_e nrtrrrrrrrrrrrrrrrrrrrrrrrrrrrrrrrrrrrrrrrrrrrr
  obtain ⟨a_DeleteAction_NO_ACTION, ev_1⟩ := exa_v nr0
  have ft_2 := Sta.start ev_1 (Or.inr ⟨(hw _ (List.mem_of_getElem? (i := 2) rfl)), (hw _ (List.mem_of_getElem? (i := 3) rfl))⟩)
  have ex_3 := Exa.start ev_1 nr0
  obtain ⟨a_DeletionRule_RESTRICT, ev_4⟩ := exa_v nr1
  have ft_5 := Sta.start ev_4 (Or.inr ⟨(hw _ (List.mem_of_getElem? (i := 5) rfl)), (hw _ (List.mem_of_getElem? (i := 6) rfl))⟩)
  have ex_6 := Exa.start ev_4 nr1
  obtain ⟨a_DeleteAction__VALUES, ev_7⟩ := arr_v nr2
  have ft_8 := Sta.start ev_7 (Or.inr ⟨(hw _ (List.mem_of_getElem? (i := 2) rfl)), (hw _ (List.mem_of_getElem? (i := 44) rfl))⟩)
  obtain ⟨cl_a_DeleteAction__VALUES, ar_9⟩ := Arr.start ev_7 nr2
  have ex_10 := Exa.start ev_7 nr3
  have ev_11 := eqv_i (Term.int_eval (5 : Int32)) nr4
  have ev_12 := own_eqr ev_1 nr5
  obtain ⟨a_DeleteAction_RESTRICT, ev_14⟩ := exa_v nr6
  have ft_15 := Sta.start ev_14 (Or.inr ⟨(hw _ (List.mem_of_getElem? (i := 2) rfl)), (hw _ (List.mem_of_getElem? (i := 52) rfl))⟩)
  have ex_16 := Exa.start ev_14 nr6
  have ev_17 := own_eqr ev_14 nr7
  obtain ⟨a_DeleteAction_CASCADE, ev_19⟩ := exa_v nr8
  have ft_20 := Sta.start ev_19 (Or.inr ⟨(hw _ (List.mem_of_getElem? (i := 2) rfl)), (hw _ (List.mem_of_getElem? (i := 53) rfl))⟩)
  have ex_21 := Exa.start ev_19 nr8
  have ev_22 := own_eqr ev_19 nr9
  obtain ⟨a_DeleteAction_SET_NULL, ev_24⟩ := exa_v nr10
  have ft_25 := Sta.start ev_24 (Or.inr ⟨(hw _ (List.mem_of_getElem? (i := 2) rfl)), (hw _ (List.mem_of_getElem? (i := 54) rfl))⟩)
  have ex_26 := Exa.start ev_24 nr10
  have ev_27 := own_eqr ev_24 nr11
  obtain ⟨a_DeleteAction_SET_DEFAULT, ev_29⟩ := exa_v nr12
  have ft_30 := Sta.start ev_29 (Or.inr ⟨(hw _ (List.mem_of_getElem? (i := 2) rfl)), (hw _ (List.mem_of_getElem? (i := 55) rfl))⟩)
  have ex_31 := Exa.start ev_29 nr12
  have ev_32 := own_eqr ev_29 nr13
  obtain ⟨a_DeleteAction_NO_ACTION_catalogCode, ev_34⟩ := exa_v nr14
  have ft_35 := Fld.start ((fld_at ev_1).symm.trans ev_34)
  have ex_36 := Exa.start ev_34 nr14
  have ev_37 := eqv_i (Term.int_eval (0 : Int32)) nr15
  have ft_38 := Fld.start ((fld_at ev_34).symm.trans ev_37)
  obtain ⟨a_DeleteAction_NO_ACTION_catalogCode_value, ev_39⟩ := arr_v nr16
  have ft_40 := Fld.start ((fld_at ev_34).symm.trans ev_39)
  obtain ⟨cl_a_DeleteAction_NO_ACTION_catalogCode_value, ar_41⟩ := Arr.start ev_39 nr16
  have ev_42 := eqv_i (Term.int_eval (1 : Int32)) nr17
  have ev_43 := eqv_i (Term.int_eval (97 : Int32)) nr18
  have ev_45 := own_eqr ev_4 nr19
  have ft_46 := Fld.start ((fld_at ev_1).symm.trans ev_45)
  obtain ⟨a_DeletionRule_DETACH, ev_47⟩ := exa_v nr20
  have ft_48 := Sta.start ev_47 (Or.inr ⟨(hw _ (List.mem_of_getElem? (i := 5) rfl)), (hw _ (List.mem_of_getElem? (i := 80) rfl))⟩)
  have ex_49 := Exa.start ev_47 nr20
  obtain ⟨a_DeleteAction_RESTRICT_catalogCode, ev_50⟩ := exa_v nr21
  have ft_51 := Fld.start ((fld_at ev_14).symm.trans ev_50)
  have ex_52 := Exa.start ev_50 nr21
  have ev_53 := eqv_i (Term.int_eval (0 : Int32)) nr22
  have ft_54 := Fld.start ((fld_at ev_50).symm.trans ev_53)
  obtain ⟨a_DeleteAction_RESTRICT_catalogCode_value, ev_55⟩ := arr_v nr23
  have ft_56 := Fld.start ((fld_at ev_50).symm.trans ev_55)
  obtain ⟨cl_a_DeleteAction_RESTRICT_catalogCode_value, ar_57⟩ := Arr.start ev_55 nr23
  have ev_58 := eqv_i (Term.int_eval (1 : Int32)) nr24
  have ev_59 := eqv_i (Term.int_eval (114 : Int32)) nr25
  obtain ⟨a_DeleteAction_CASCADE_catalogCode, ev_61⟩ := exa_v nr26
  have ft_62 := Fld.start ((fld_at ev_19).symm.trans ev_61)
  have ex_63 := Exa.start ev_61 nr26
  have ev_64 := eqv_i (Term.int_eval (0 : Int32)) nr27
  have ft_65 := Fld.start ((fld_at ev_61).symm.trans ev_64)
  obtain ⟨a_DeleteAction_CASCADE_catalogCode_value, ev_66⟩ := arr_v nr28
  have ft_67 := Fld.start ((fld_at ev_61).symm.trans ev_66)
  obtain ⟨cl_a_DeleteAction_CASCADE_catalogCode_value, ar_68⟩ := Arr.start ev_66 nr28
  have ev_69 := eqv_i (Term.int_eval (1 : Int32)) nr29
  have ev_70 := eqv_i (Term.int_eval (99 : Int32)) nr30
  obtain ⟨a_DeleteAction_SET_NULL_catalogCode, ev_72⟩ := exa_v nr31
  have ft_73 := Fld.start ((fld_at ev_24).symm.trans ev_72)
  have ex_74 := Exa.start ev_72 nr31
  have ev_75 := eqv_i (Term.int_eval (0 : Int32)) nr32
  have ft_76 := Fld.start ((fld_at ev_72).symm.trans ev_75)
  obtain ⟨a_DeleteAction_SET_NULL_catalogCode_value, ev_77⟩ := arr_v nr33
  have ft_78 := Fld.start ((fld_at ev_72).symm.trans ev_77)
  obtain ⟨cl_a_DeleteAction_SET_NULL_catalogCode_value, ar_79⟩ := Arr.start ev_77 nr33
  have ev_80 := eqv_i (Term.int_eval (1 : Int32)) nr34
  have ev_81 := eqv_i (Term.int_eval (110 : Int32)) nr35
  have ev_83 := own_eqr ev_47 nr36
  have ft_84 := Fld.start ((fld_at ev_24).symm.trans ev_83)
  have ev_85 := own_eqr ev_4 nr37
  have ft_86 := Fld.start ((fld_at ev_14).symm.trans ev_85)
  obtain ⟨a_DeleteAction_SET_DEFAULT_catalogCode, ev_87⟩ := exa_v nr38
  have ft_88 := Fld.start ((fld_at ev_29).symm.trans ev_87)
  have ex_89 := Exa.start ev_87 nr38
  have ev_90 := eqv_i (Term.int_eval (0 : Int32)) nr39
  have ft_91 := Fld.start ((fld_at ev_87).symm.trans ev_90)
  obtain ⟨a_DeleteAction_SET_DEFAULT_catalogCode_value, ev_92⟩ := arr_v nr40
  have ft_93 := Fld.start ((fld_at ev_87).symm.trans ev_92)
  obtain ⟨cl_a_DeleteAction_SET_DEFAULT_catalogCode_value, ar_94⟩ := Arr.start ev_92 nr40
  have ev_95 := eqv_i (Term.int_eval (1 : Int32)) nr41
  have ev_96 := eqv_i (Term.int_eval (100 : Int32)) nr42
  have ev_98 := own_eqr ev_47 nr43
  have ft_99 := Fld.start ((fld_at ev_29).symm.trans ev_98)
  obtain ⟨a_DeletionRule_CASCADE, ev_100⟩ := exa_v nr44
  have ft_101 := Sta.start ev_100 (Or.inr ⟨(hw _ (List.mem_of_getElem? (i := 5) rfl)), (hw _ (List.mem_of_getElem? (i := 85) rfl))⟩)
  have ex_102 := Exa.start ev_100 nr44
  have ev_103 := own_eqr ev_100 nr45
  have ft_104 := Fld.start ((fld_at ev_19).symm.trans ev_103)
  have lav_105 := own_len ev_7 ar_9 ev_11
  have av_105 : Arv s s.heap a_DeleteAction__VALUES cl_a_DeleteAction__VALUES.cls (.object "com/example/scopa/scopa/schema/DeleteAction") (5 : Int32) [(.ref a_DeleteAction_NO_ACTION), (.ref a_DeleteAction_RESTRICT), (.ref a_DeleteAction_CASCADE), (.ref a_DeleteAction_SET_NULL), (.ref a_DeleteAction_SET_DEFAULT)] .null := Arv.start hfit ar_9 lav_105.1 lav_105.2 (by decide) rfl ⟨own_el ev_7 ar_9 ev_12 (by decide), own_el ev_7 ar_9 ev_17 (by decide), own_el ev_7 ar_9 ev_22 (by decide), own_el ev_7 ar_9 ev_27 (by decide), own_el ev_7 ar_9 ev_32 (by decide), trivial⟩
  have lav_106 := own_len ev_39 ar_41 ev_42
  have av_106 : Arv s s.heap a_DeleteAction_NO_ACTION_catalogCode_value cl_a_DeleteAction_NO_ACTION_catalogCode_value.cls .byte (1 : Int32) [(.int (97 : Int32))] (.int 0) := Arv.start hfit ar_41 lav_106.1 lav_106.2 (by decide) rfl ⟨own_el ev_39 ar_41 ev_43 (by decide), trivial⟩
  have lav_107 := own_len ev_55 ar_57 ev_58
  have av_107 : Arv s s.heap a_DeleteAction_RESTRICT_catalogCode_value cl_a_DeleteAction_RESTRICT_catalogCode_value.cls .byte (1 : Int32) [(.int (114 : Int32))] (.int 0) := Arv.start hfit ar_57 lav_107.1 lav_107.2 (by decide) rfl ⟨own_el ev_55 ar_57 ev_59 (by decide), trivial⟩
  have lav_108 := own_len ev_66 ar_68 ev_69
  have av_108 : Arv s s.heap a_DeleteAction_CASCADE_catalogCode_value cl_a_DeleteAction_CASCADE_catalogCode_value.cls .byte (1 : Int32) [(.int (99 : Int32))] (.int 0) := Arv.start hfit ar_68 lav_108.1 lav_108.2 (by decide) rfl ⟨own_el ev_66 ar_68 ev_70 (by decide), trivial⟩
  have lav_109 := own_len ev_77 ar_79 ev_80
  have av_109 : Arv s s.heap a_DeleteAction_SET_NULL_catalogCode_value cl_a_DeleteAction_SET_NULL_catalogCode_value.cls .byte (1 : Int32) [(.int (110 : Int32))] (.int 0) := Arv.start hfit ar_79 lav_109.1 lav_109.2 (by decide) rfl ⟨own_el ev_77 ar_79 ev_81 (by decide), trivial⟩
  have lav_110 := own_len ev_92 ar_94 ev_95
  have av_110 : Arv s s.heap a_DeleteAction_SET_DEFAULT_catalogCode_value cl_a_DeleteAction_SET_DEFAULT_catalogCode_value.cls .byte (1 : Int32) [(.int (100 : Int32))] (.int 0) := Arv.start hfit ar_94 lav_110.1 lav_110.2 (by decide) rfl ⟨own_el ev_92 ar_94 ev_96 (by decide), trivial⟩
  obtain ⟨cz, evz⟩ := is_v (Cond.before_iff.mp (hsets _ (List.mem_of_getElem? (i := 1) rfl)))
  have SCS := Sta.start evz (Or.inl (hsets _ (List.mem_of_getElem? (i := 0) rfl)))
  have hcz : ¬ cz = (0 : Int32) := gotF (Cond.eq_ints evz (Term.int_eval (0 : Int32))) (not_v (Cond.before_iff.mp (hsets _ (List.mem_of_getElem? (i := 2) rfl))))
  obtain ⟨n, o, h1, h2, h3, _, L, rfl, ⟨rfl, N⟩, hq⟩ := (rm_law (l := l) hw i0 a_DeleteAction_NO_ACTION a_DeletionRule_RESTRICT a_DeleteAction__VALUES a_DeleteAction_RESTRICT a_DeleteAction_CASCADE a_DeleteAction_SET_NULL a_DeleteAction_SET_DEFAULT a_DeleteAction_NO_ACTION_catalogCode a_DeleteAction_NO_ACTION_catalogCode_value a_DeletionRule_DETACH a_DeleteAction_RESTRICT_catalogCode a_DeleteAction_RESTRICT_catalogCode_value a_DeleteAction_CASCADE_catalogCode a_DeleteAction_CASCADE_catalogCode_value a_DeleteAction_SET_NULL_catalogCode a_DeleteAction_SET_NULL_catalogCode_value a_DeleteAction_SET_DEFAULT_catalogCode a_DeleteAction_SET_DEFAULT_catalogCode_value a_DeletionRule_CASCADE cl_a_DeleteAction__VALUES.cls cl_a_DeleteAction_NO_ACTION_catalogCode_value.cls cl_a_DeleteAction_RESTRICT_catalogCode_value.cls cl_a_DeleteAction_CASCADE_catalogCode_value.cls cl_a_DeleteAction_SET_NULL_catalogCode_value.cls cl_a_DeleteAction_SET_DEFAULT_catalogCode_value.cls s.heap ⟨Nat.le_refl _, fun _ _ q => q⟩ cz SCS hcz ft_2 ft_5 ft_8 ft_15 ft_20 ft_25 ft_30 ft_48 ft_101 ex_3 ex_6 ex_10 ex_16 ex_21 ex_26 ex_31 ex_36 ex_49 ex_52 ex_63 ex_74 ex_89 ex_102 ft_35 ft_38 ft_40 ft_46 ft_51 ft_54 ft_56 ft_62 ft_65 ft_67 ft_73 ft_76 ft_78 ft_84 ft_86 ft_88 ft_91 ft_93 ft_99 ft_104 av_105 av_106 av_107 av_108 av_109 av_110) tables_1 p e ha hc hk s m _ below hf ((Spec.applies_iff_loose hf).mp happ).1 ⟨rfl, State.Warmed39.refl s, rfl⟩ trivial
  refine ⟨n, _, h1, h2, h3, hpost _ _ _ _ _ _ ⟨Cond.after_iff.mpr rfl, Cond.after_iff.mpr (eq_i res_at (Term.int_eval (1)) rfl), trivial⟩ ⟨hq.1, hq.2.1, (hq.2.2.sift fun y hy => Or.inr (N y hy)).mono (by decide) (by decide)⟩⟩
theorem main_1_1 : Claimed_1_1 := comes_1 fun _ _ _ _ _ _ h hF => ⟨h.1, hF⟩
theorem main_1_2 : Claimed_1_2 := comes_1 fun _ _ _ _ _ _ h hF => ⟨h.2.1, hF⟩
end Jvm.Pilot.@@N@@
namespace Jvm.Pilot.@@N@@
open Jvm Jvm.ClassFile Sem Op Lib Jvm.Free Jvm.Stand Jvm.Pilot.@@N@@.Jvm.D
/-! MADE BY PROGRAM (witnessworld.py) out of the Statement's table words and the real class files: 23 classes; the members and pool entries that the words name. The judged class is class 1, her method 1. -/
namespace start1
open Jvm.ClassFile
def u (s : String) : CpInfo := .utf8 (stringToUtf16 s)
/-- a pool by its gaps: so many unusable entries, then the entry; so many at the end -/
def gap : Nat → List CpInfo → List CpInfo
  | 0, r => r
  | n + 1, r => .unusable :: gap n r
def poolList (es : List (Nat × CpInfo)) (last : Nat) : List CpInfo := es.foldr (fun e r => gap e.1 (e.2 :: r)) (gap last [])
def pool (es : List (Nat × CpInfo)) (last : Nat) : Array CpInfo := ⟨poolList es last⟩
def fileOf (pool : Array CpInfo) (this : Nat) (attrs : Array Attribute := #[]) (ms : Array MethodInfo := #[]) (fl : Nat := 33) (sup : Nat := 0) (ifs : Array Nat := #[]) (fds : Array FieldInfo := #[]) : ClassFile where
  minorVersion := 0
  majorVersion := 65
  constantPool := pool
  accessFlags := fl
  thisClass := this
  superClass := sup
  interfaces := ifs
  fields := fds
  methods := ms
  attributes := attrs
def plain (name : String) (sup : Option ClassId) : Class where
  name := name
  kind := .ordinary
  loader := none
  accessFlags := 33
  super := sup
  interfaces := #[]
  cf := none
  fields := #[]
  methods := #[]
  instanceTypes := #[]
  staticTypes := #[]
  resolved := #[]
  callSites := []
  init := .initialized
  statics := none
  mirror := none

def pool0 : Array CpInfo := pool [(5, u "<init>"), (0, u "()V"), (1, .class_ 10), (1, u "java/lang/Object"), (85, u "clone"), (0, u "()Ljava/lang/Object;")] 26

def k0c0 : Code := { maxStack := 0, maxLocals := 1, code := object_method_1_code, exceptionTable := #[], attributes := #[] }
def k0m0 : Method := { name := "<init>", desc := "()V", sig := { parameters := [], returnType := none }, accessFlags := 1, code := some k0c0 }
def k0m1 : Method := { name := "clone", desc := "()Ljava/lang/Object;", sig := { parameters := [], returnType := some (.object "java/lang/Object") }, accessFlags := 260, code := none }
/-- java/lang/Object -/
def k0 : Class := { plain "java/lang/Object" none with
  accessFlags := 33
  interfaces := #[]
  cf := some (fileOf pool0 8 #[] #[{ accessFlags := 1, nameIndex := 5, descriptorIndex := 6, attributes := #[] }, { accessFlags := 260, nameIndex := 96, descriptorIndex := 97, attributes := #[] }] 33 0 #[] #[])
  fields := #[]
  methods := #[k0m0, k0m1]
  instanceTypes := #[]
  staticTypes := #[]
  resolved := Array.replicate 124 none
  statics := none }

def pool1 : Array CpInfo := pool [(2, .class_ 4), (1, u "java/lang/Object"), (0, u "<init>"), (0, u "()V"), (0, .integer 2147483647), (0, .fieldref 9 10), (0, .class_ 11), (0, .nameAndType 12 13), (0, u "com/example/scopa/scopa/schema/DeleteAction"), (0, u "NO_ACTION"), (0, u "Lcom/example/scopa/scopa/schema/DeleteAction;"), (0, .fieldref 15 16), (0, .class_ 17), (0, .nameAndType 18 19), (0, u "com/example/scopa/scopa/schema/DeletionRule"), (0, u "RESTRICT"), (0, u "Lcom/example/scopa/scopa/schema/DeletionRule;"), (0, .fieldref 9 21), (0, .nameAndType 18 13), (0, .fieldref 9 23), (0, .nameAndType 24 13), (0, u "CASCADE"), (0, .fieldref 15 26), (0, .nameAndType 24 19), (0, .fieldref 9 28), (0, .nameAndType 29 13), (0, u "SET_NULL"), (0, .fieldref 15 31), (0, .nameAndType 32 19), (0, u "DETACH"), (0, .fieldref 9 34), (0, .nameAndType 35 13), (0, u "SET_DEFAULT"), (0, .class_ 37), (0, u "java/lang/String"), (0, .methodref 36 39), (0, .nameAndType 5 40), (0, u "([C)V"), (0, .methodref 9 42), (0, .nameAndType 43 44), (0, u "fromCatalogCode"), (0, u "(Ljava/lang/String;)Lcom/example/scopa/scopa/schema/DeleteAction;"), (0, .methodref 9 46), (0, .nameAndType 47 48), (0, u "rule"), (0, u "()Lcom/example/scopa/scopa/schema/DeletionRule;"), (0, .class_ 50), (0, u "com/example/scopa/scopa/schema/DeleteActionFromCatalogCodePinLaw"), (2, u "law"), (0, u "(I)Z")] 5

def k1m0 : Method := { name := "<init>", desc := "()V", sig := { parameters := [], returnType := none }, accessFlags := 1, code := none }
def k1c1 : Code := { maxStack := 3, maxLocals := 8, code := code, exceptionTable := #[], attributes := #[] }
def k1m1 : Method := { name := "law", desc := "(I)Z", sig := { parameters := [.int], returnType := some .boolean }, accessFlags := 9, code := some k1c1 }
/-- com/example/scopa/scopa/schema/DeleteActionFromCatalogCodePinLaw -/
def k1 : Class := { plain "com/example/scopa/scopa/schema/DeleteActionFromCatalogCodePinLaw" (some 0) with
  accessFlags := 49
  interfaces := #[]
  cf := some (fileOf pool1 49 #[] #[{ accessFlags := 1, nameIndex := 5, descriptorIndex := 6, attributes := #[] }, { accessFlags := 9, nameIndex := 53, descriptorIndex := 54, attributes := #[] }] 49 2 #[] #[])
  fields := #[]
  methods := #[k1m0, k1m1]
  instanceTypes := #[]
  staticTypes := #[]
  resolved := Array.replicate 60 none
  statics := none }

def pool2 : Array CpInfo := pool [(1, .class_ 2), (0, u "java/lang/constant/Constable"), (0, .class_ 4), (0, u "java/lang/Object")] 6

/-- java/lang/constant/Constable -/
def k2 : Class := { plain "java/lang/constant/Constable" (some 0) with
  accessFlags := 1537
  interfaces := #[]
  cf := some (fileOf pool2 1 #[] #[] 1537 3 #[] #[])
  fields := #[]
  methods := #[]
  instanceTypes := #[]
  staticTypes := #[]
  resolved := Array.replicate 11 none
  statics := none }

def pool3 : Array CpInfo := pool [(1, .class_ 2), (0, u "java/lang/Comparable"), (0, .class_ 4), (0, u "java/lang/Object")] 7

/-- java/lang/Comparable -/
def k3 : Class := { plain "java/lang/Comparable" (some 0) with
  accessFlags := 1537
  interfaces := #[]
  cf := some (fileOf pool3 1 #[] #[] 1537 3 #[] #[])
  fields := #[]
  methods := #[]
  instanceTypes := #[]
  staticTypes := #[]
  resolved := Array.replicate 12 none
  statics := none }

def pool4 : Array CpInfo := pool [(1, .class_ 2), (0, u "java/io/Serializable"), (0, .class_ 4), (0, u "java/lang/Object")] 2

/-- java/io/Serializable -/
def k4 : Class := { plain "java/io/Serializable" (some 0) with
  accessFlags := 1537
  interfaces := #[]
  cf := some (fileOf pool4 1 #[] #[] 1537 3 #[] #[])
  fields := #[]
  methods := #[]
  instanceTypes := #[]
  staticTypes := #[]
  resolved := Array.replicate 7 none
  statics := none }

def pool5 : Array CpInfo := pool [(2, .class_ 4), (1, u "java/lang/Enum"), (0, u "name"), (0, u "Ljava/lang/String;"), (2, u "ordinal"), (0, u "I"), (1, .class_ 14), (1, u "java/lang/Object"), (4, u "hash"), (86, .class_ 108), (1, u "java/lang/Enum$EnumDesc"), (2, .class_ 112), (0, u "java/lang/constant/Constable"), (0, .class_ 114), (0, u "java/lang/Comparable"), (0, .class_ 116), (0, u "java/io/Serializable")] 87

/-- java/lang/Enum -/
def k5 : Class := { plain "java/lang/Enum" (some 0) with
  accessFlags := 1057
  interfaces := #[2, 3, 4]
  cf := some (fileOf pool5 2 #[.nestMembers #[106]] #[] 1057 12 #[111, 113, 115] #[{ accessFlags := 18, nameIndex := 5, descriptorIndex := 6, attributes := #[] }, { accessFlags := 18, nameIndex := 9, descriptorIndex := 10, attributes := #[] }, { accessFlags := 2, nameIndex := 19, descriptorIndex := 10, attributes := #[] }])
  fields := #[{ name := "name", type := (.object "java/lang/String"), accessFlags := 18, slot := 0, constantValue := 0 }, { name := "ordinal", type := .int, accessFlags := 18, slot := 1, constantValue := 0 }, { name := "hash", type := .int, accessFlags := 2, slot := 2, constantValue := 0 }]
  methods := #[]
  instanceTypes := #[(.object "java/lang/String"), .int, .int]
  staticTypes := #[]
  resolved := Array.replicate 204 none
  statics := none }

def pool6 : Array CpInfo := pool [(1, .class_ 2), (0, u "com/example/scopa/scopa/schema/DeleteAction"), (2, u "NO_ACTION"), (0, u "Lcom/example/scopa/scopa/schema/DeleteAction;"), (2, u "RESTRICT"), (2, u "CASCADE"), (2, u "SET_NULL"), (2, u "SET_DEFAULT"), (0, .fieldref 1 20), (0, .nameAndType 21 22), (0, u "$VALUES"), (0, u "[Lcom/example/scopa/scopa/schema/DeleteAction;"), (0, .methodref 24 25), (0, .class_ 22), (0, .nameAndType 26 27), (0, u "clone"), (0, u "()Ljava/lang/Object;"), (1, .class_ 31), (1, u "java/lang/Enum"), (6, .fieldref 1 39), (0, .nameAndType 40 41), (0, u "catalogCode"), (0, u "Ljava/lang/String;"), (0, .fieldref 1 43), (0, .nameAndType 44 45), (0, u "rule"), (0, u "Lcom/example/scopa/scopa/schema/DeletionRule;"), (0, .methodref 1 47), (0, .nameAndType 48 49), (0, u "values"), (0, u "()[Lcom/example/scopa/scopa/schema/DeleteAction;"), (0, .methodref 51 52), (0, .class_ 53), (0, .nameAndType 54 55), (0, u "java/lang/String"), (0, u "equals"), (0, u "(Ljava/lang/Object;)Z"), (41, u "(Ljava/lang/String;)Lcom/example/scopa/scopa/schema/DeleteAction;"), (3, u "fromCatalogCode"), (1, u "()Lcom/example/scopa/scopa/schema/DeletionRule;")] 20

def k6c0 : Code := { maxStack := 1, maxLocals := 0, code := prog_10_method_1_code, exceptionTable := #[], attributes := #[] }
def k6m0 : Method := { name := "values", desc := "()[Lcom/example/scopa/scopa/schema/DeleteAction;", sig := { parameters := [], returnType := some (.array (.object "com/example/scopa/scopa/schema/DeleteAction")) }, accessFlags := 9, code := some k6c0 }
def k6c1 : Code := { maxStack := 3, maxLocals := 5, code := prog_10_method_4_code, exceptionTable := #[], attributes := #[] }
def k6m1 : Method := { name := "fromCatalogCode", desc := "(Ljava/lang/String;)Lcom/example/scopa/scopa/schema/DeleteAction;", sig := { parameters := [(.object "java/lang/String")], returnType := some (.object "com/example/scopa/scopa/schema/DeleteAction") }, accessFlags := 9, code := some k6c1 }
def k6c2 : Code := { maxStack := 1, maxLocals := 1, code := prog_10_method_5_code, exceptionTable := #[], attributes := #[] }
def k6m2 : Method := { name := "rule", desc := "()Lcom/example/scopa/scopa/schema/DeletionRule;", sig := { parameters := [], returnType := some (.object "com/example/scopa/scopa/schema/DeletionRule") }, accessFlags := 1, code := some k6c2 }
/-- com/example/scopa/scopa/schema/DeleteAction -/
def k6 : Class := { plain "com/example/scopa/scopa/schema/DeleteAction" (some 5) with
  accessFlags := 16433
  interfaces := #[]
  cf := some (fileOf pool6 1 #[] #[{ accessFlags := 9, nameIndex := 48, descriptorIndex := 49, attributes := #[] }, { accessFlags := 9, nameIndex := 101, descriptorIndex := 97, attributes := #[] }, { accessFlags := 1, nameIndex := 44, descriptorIndex := 103, attributes := #[] }] 16433 29 #[] #[{ accessFlags := 16409, nameIndex := 5, descriptorIndex := 6, attributes := #[] }, { accessFlags := 16409, nameIndex := 9, descriptorIndex := 6, attributes := #[] }, { accessFlags := 16409, nameIndex := 12, descriptorIndex := 6, attributes := #[] }, { accessFlags := 16409, nameIndex := 15, descriptorIndex := 6, attributes := #[] }, { accessFlags := 16409, nameIndex := 18, descriptorIndex := 6, attributes := #[] }, { accessFlags := 18, nameIndex := 40, descriptorIndex := 41, attributes := #[] }, { accessFlags := 18, nameIndex := 44, descriptorIndex := 45, attributes := #[] }, { accessFlags := 4122, nameIndex := 21, descriptorIndex := 22, attributes := #[] }])
  fields := #[{ name := "NO_ACTION", type := (.object "com/example/scopa/scopa/schema/DeleteAction"), accessFlags := 16409, slot := 0, constantValue := 0 }, { name := "RESTRICT", type := (.object "com/example/scopa/scopa/schema/DeleteAction"), accessFlags := 16409, slot := 1, constantValue := 0 }, { name := "CASCADE", type := (.object "com/example/scopa/scopa/schema/DeleteAction"), accessFlags := 16409, slot := 2, constantValue := 0 }, { name := "SET_NULL", type := (.object "com/example/scopa/scopa/schema/DeleteAction"), accessFlags := 16409, slot := 3, constantValue := 0 }, { name := "SET_DEFAULT", type := (.object "com/example/scopa/scopa/schema/DeleteAction"), accessFlags := 16409, slot := 4, constantValue := 0 }, { name := "catalogCode", type := (.object "java/lang/String"), accessFlags := 18, slot := 3, constantValue := 0 }, { name := "rule", type := (.object "com/example/scopa/scopa/schema/DeletionRule"), accessFlags := 18, slot := 4, constantValue := 0 }, { name := "$VALUES", type := (.array (.object "com/example/scopa/scopa/schema/DeleteAction")), accessFlags := 4122, slot := 5, constantValue := 0 }]
  methods := #[k6m0, k6m1, k6m2]
  instanceTypes := #[(.object "java/lang/String"), .int, .int, (.object "java/lang/String"), (.object "com/example/scopa/scopa/schema/DeletionRule")]
  staticTypes := #[(.object "com/example/scopa/scopa/schema/DeleteAction"), (.object "com/example/scopa/scopa/schema/DeleteAction"), (.object "com/example/scopa/scopa/schema/DeleteAction"), (.object "com/example/scopa/scopa/schema/DeleteAction"), (.object "com/example/scopa/scopa/schema/DeleteAction"), (.array (.object "com/example/scopa/scopa/schema/DeleteAction"))]
  resolved := Array.replicate 124 none
  statics := some 0 }

def pool7 : Array CpInfo := pool [(1, .class_ 2), (0, u "com/example/scopa/scopa/schema/DeletionRule"), (2, u "CASCADE"), (0, u "Lcom/example/scopa/scopa/schema/DeletionRule;"), (2, u "RESTRICT"), (2, u "COLLECT"), (2, u "GROUP"), (2, u "DETACH"), (2, u "$VALUES"), (0, u "[Lcom/example/scopa/scopa/schema/DeletionRule;"), (6, .class_ 31), (1, u "java/lang/Enum"), (8, u "takesReferencingRows"), (0, u "Z"), (2, u "holds"), (2, u "considersReferencedRow"), (2, u "bindsReferencingRow")] 25

/-- com/example/scopa/scopa/schema/DeletionRule -/
def k7 : Class := { plain "com/example/scopa/scopa/schema/DeletionRule" (some 5) with
  accessFlags := 16433
  interfaces := #[]
  cf := some (fileOf pool7 1 #[] #[] 16433 29 #[] #[{ accessFlags := 16409, nameIndex := 5, descriptorIndex := 6, attributes := #[] }, { accessFlags := 16409, nameIndex := 9, descriptorIndex := 6, attributes := #[] }, { accessFlags := 16409, nameIndex := 12, descriptorIndex := 6, attributes := #[] }, { accessFlags := 16409, nameIndex := 15, descriptorIndex := 6, attributes := #[] }, { accessFlags := 16409, nameIndex := 18, descriptorIndex := 6, attributes := #[] }, { accessFlags := 18, nameIndex := 40, descriptorIndex := 41, attributes := #[] }, { accessFlags := 18, nameIndex := 44, descriptorIndex := 41, attributes := #[] }, { accessFlags := 18, nameIndex := 47, descriptorIndex := 41, attributes := #[] }, { accessFlags := 18, nameIndex := 50, descriptorIndex := 41, attributes := #[] }, { accessFlags := 4122, nameIndex := 21, descriptorIndex := 22, attributes := #[] }])
  fields := #[{ name := "CASCADE", type := (.object "com/example/scopa/scopa/schema/DeletionRule"), accessFlags := 16409, slot := 0, constantValue := 0 }, { name := "RESTRICT", type := (.object "com/example/scopa/scopa/schema/DeletionRule"), accessFlags := 16409, slot := 1, constantValue := 0 }, { name := "COLLECT", type := (.object "com/example/scopa/scopa/schema/DeletionRule"), accessFlags := 16409, slot := 2, constantValue := 0 }, { name := "GROUP", type := (.object "com/example/scopa/scopa/schema/DeletionRule"), accessFlags := 16409, slot := 3, constantValue := 0 }, { name := "DETACH", type := (.object "com/example/scopa/scopa/schema/DeletionRule"), accessFlags := 16409, slot := 4, constantValue := 0 }, { name := "takesReferencingRows", type := .boolean, accessFlags := 18, slot := 3, constantValue := 0 }, { name := "holds", type := .boolean, accessFlags := 18, slot := 4, constantValue := 0 }, { name := "considersReferencedRow", type := .boolean, accessFlags := 18, slot := 5, constantValue := 0 }, { name := "bindsReferencingRow", type := .boolean, accessFlags := 18, slot := 6, constantValue := 0 }, { name := "$VALUES", type := (.array (.object "com/example/scopa/scopa/schema/DeletionRule")), accessFlags := 4122, slot := 5, constantValue := 0 }]
  methods := #[]
  instanceTypes := #[(.object "java/lang/String"), .int, .int, .boolean, .boolean, .boolean, .boolean]
  staticTypes := #[(.object "com/example/scopa/scopa/schema/DeletionRule"), (.object "com/example/scopa/scopa/schema/DeletionRule"), (.object "com/example/scopa/scopa/schema/DeletionRule"), (.object "com/example/scopa/scopa/schema/DeletionRule"), (.object "com/example/scopa/scopa/schema/DeletionRule"), (.array (.object "com/example/scopa/scopa/schema/DeletionRule"))]
  resolved := Array.replicate 76 none
  statics := some 1 }

def pool8 : Array CpInfo := pool [(2, .class_ 4), (1, u "java/lang/CharSequence"), (42, .class_ 48), (0, u "java/lang/CharSequence$1CodePointIterator"), (10, .class_ 60), (0, u "java/lang/CharSequence$1CharIterator"), (5, .class_ 67), (0, u "java/lang/Object")] 63

/-- java/lang/CharSequence -/
def k8 : Class := { plain "java/lang/CharSequence" (some 0) with
  accessFlags := 1537
  interfaces := #[]
  cf := some (fileOf pool8 2 #[.nestMembers #[47, 59]] #[] 1537 66 #[] #[])
  fields := #[]
  methods := #[]
  instanceTypes := #[]
  staticTypes := #[]
  resolved := Array.replicate 131 none
  statics := none }

def pool9 : Array CpInfo := pool [(1, .class_ 2), (0, u "java/lang/constant/ConstantDesc"), (0, .class_ 4), (0, u "java/lang/Object")] 32

/-- java/lang/constant/ConstantDesc -/
def k9 : Class := { plain "java/lang/constant/ConstantDesc" (some 0) with
  accessFlags := 1537
  interfaces := #[]
  cf := some (fileOf pool9 1 #[] #[] 1537 3 #[] #[])
  fields := #[]
  methods := #[]
  instanceTypes := #[]
  staticTypes := #[]
  resolved := Array.replicate 37 none
  statics := none }

def pool10 : Array CpInfo := pool [(1, .methodref 2 3), (0, .class_ 4), (0, .nameAndType 5 6), (0, u "java/lang/Object"), (0, u "<init>"), (0, u "()V"), (2, .fieldref 10 11), (0, .class_ 12), (0, .nameAndType 13 14), (0, u "java/lang/String"), (0, u "value"), (0, u "[B"), (0, .fieldref 10 16), (0, .nameAndType 17 18), (0, u "coder"), (0, u "B"), (2, u "hash"), (0, u "I"), (2, u "hashIsZero"), (0, u "Z"), (0, .methodref 10 28), (0, .nameAndType 5 29), (0, u "([CIILjava/lang/Void;)V"), (8, .fieldref 10 39), (0, .nameAndType 40 26), (0, u "COMPACT_STRINGS"), (1, .class_ 44), (1, u "java/lang/StringUTF16"), (0, u "compress"), (1, .methodref 42 48), (0, .nameAndType 49 50), (0, u "coderFromArrayLen"), (0, u "([BI)B"), (56, .class_ 109), (1, u "java/lang/StringLatin1"), (67, .methodref 42 178), (0, .nameAndType 45 179), (0, u "([CII)[B"), (361, .methodref 107 542), (0, .nameAndType 543 544), (0, u "equals"), (0, u "([B[B)Z"), (28, u "(Ljava/lang/Object;)Z"), (1, .class_ 576), (0, u "java/lang/CharSequence"), (22, u "CASE_INSENSITIVE_ORDER"), (0, u "Ljava/util/Comparator;"), (409, u "([C)V"), (90, u "serialPersistentFields"), (0, u "[Ljava/io/ObjectStreamField;"), (0, .class_ 1104), (0, u "java/lang/String$CaseInsensitiveComparator"), (1, .class_ 1107), (0, u "java/io/Serializable"), (0, .class_ 1109), (0, u "java/lang/Comparable"), (0, .class_ 1111), (0, u "java/lang/constant/Constable"), (0, .class_ 1113), (0, u "java/lang/constant/ConstantDesc"), (2, u "serialVersionUID"), (0, u "J"), (3, u "REPL"), (0, u "C"), (2, u "LATIN1"), (1, u "UTF16")] 323

def k10m0 : Method := { name := "<init>", desc := "()V", sig := { parameters := [], returnType := none }, accessFlags := 1, code := none }
def k10c1 : Code := { maxStack := 5, maxLocals := 2, code := jdk_42_method_3_code, exceptionTable := #[], attributes := #[] }
def k10m1 : Method := { name := "<init>", desc := "([C)V", sig := { parameters := [(.array .char)], returnType := none }, accessFlags := 1, code := some k10c1 }
def k10c2 : Code := { maxStack := 2, maxLocals := 3, code := jdk_42_method_66_code, exceptionTable := #[], attributes := #[] }
def k10m2 : Method := { name := "equals", desc := "(Ljava/lang/Object;)Z", sig := { parameters := [(.object "java/lang/Object")], returnType := some .boolean }, accessFlags := 1, code := some k10c2 }
def k10c3 : Code := { maxStack := 4, maxLocals := 6, code := jdk_42_method_149_code, exceptionTable := #[], attributes := #[] }
def k10m3 : Method := { name := "<init>", desc := "([CIILjava/lang/Void;)V", sig := { parameters := [(.array .char), .int, .int, (.object "java/lang/Void")], returnType := none }, accessFlags := 2, code := some k10c3 }
/-- java/lang/String -/
def k10 : Class := { plain "java/lang/String" (some 0) with
  accessFlags := 49
  interfaces := #[4, 3, 8, 2, 9]
  cf := some (fileOf pool10 10 #[.nestMembers #[1103]] #[{ accessFlags := 1, nameIndex := 5, descriptorIndex := 6, attributes := #[] }, { accessFlags := 1, nameIndex := 5, descriptorIndex := 1010, attributes := #[] }, { accessFlags := 1, nameIndex := 543, descriptorIndex := 573, attributes := #[] }, { accessFlags := 2, nameIndex := 5, descriptorIndex := 29, attributes := #[] }] 49 2 #[1106, 1108, 575, 1110, 1112] #[{ accessFlags := 18, nameIndex := 13, descriptorIndex := 14, attributes := #[] }, { accessFlags := 18, nameIndex := 17, descriptorIndex := 18, attributes := #[] }, { accessFlags := 2, nameIndex := 21, descriptorIndex := 22, attributes := #[] }, { accessFlags := 2, nameIndex := 25, descriptorIndex := 26, attributes := #[] }, { accessFlags := 26, nameIndex := 1116, descriptorIndex := 1117, attributes := #[] }, { accessFlags := 24, nameIndex := 40, descriptorIndex := 26, attributes := #[] }, { accessFlags := 26, nameIndex := 1101, descriptorIndex := 1102, attributes := #[] }, { accessFlags := 26, nameIndex := 1121, descriptorIndex := 1122, attributes := #[] }, { accessFlags := 25, nameIndex := 599, descriptorIndex := 600, attributes := #[] }, { accessFlags := 24, nameIndex := 1125, descriptorIndex := 18, attributes := #[] }, { accessFlags := 24, nameIndex := 1127, descriptorIndex := 18, attributes := #[] }])
  fields := #[{ name := "value", type := (.array .byte), accessFlags := 18, slot := 0, constantValue := 0 }, { name := "coder", type := .byte, accessFlags := 18, slot := 1, constantValue := 0 }, { name := "hash", type := .int, accessFlags := 2, slot := 2, constantValue := 0 }, { name := "hashIsZero", type := .boolean, accessFlags := 2, slot := 3, constantValue := 0 }, { name := "serialVersionUID", type := .long, accessFlags := 26, slot := 0, constantValue := 0 }, { name := "COMPACT_STRINGS", type := .boolean, accessFlags := 24, slot := 1, constantValue := 0 }, { name := "serialPersistentFields", type := (.array (.object "java/io/ObjectStreamField")), accessFlags := 26, slot := 2, constantValue := 0 }, { name := "REPL", type := .char, accessFlags := 26, slot := 3, constantValue := 0 }, { name := "CASE_INSENSITIVE_ORDER", type := (.object "java/util/Comparator"), accessFlags := 25, slot := 4, constantValue := 0 }, { name := "LATIN1", type := .byte, accessFlags := 24, slot := 5, constantValue := 0 }, { name := "UTF16", type := .byte, accessFlags := 24, slot := 6, constantValue := 0 }]
  methods := #[k10m0, k10m1, k10m2, k10m3]
  instanceTypes := #[(.array .byte), .byte, .int, .boolean]
  staticTypes := #[.long, .boolean, (.array (.object "java/io/ObjectStreamField")), .char, (.object "java/util/Comparator"), .byte, .byte]
  resolved := Array.replicate 1451 none
  statics := some 2 }

def pool11 : Array CpInfo := pool [(6, .class_ 8), (1, u "java/lang/Object"), (0, u "<init>"), (0, u "()V"), (1, .class_ 14), (1, u "java/lang/StringUTF16"), (31, u "$assertionsDisabled"), (0, u "Z"), (13, u "HI_BYTE_SHIFT"), (0, u "I"), (2, u "LO_BYTE_SHIFT"), (49, .methodref 12 116), (0, .nameAndType 117 118), (0, u "compress"), (0, u "([CI[BII)I"), (3, u "([CII)[B"), (138, u "coderFromArrayLen"), (0, u "([BI)B"), (106, .class_ 371), (1, u "java/lang/StringUTF16$LinesSpliterator"), (58, u "MAX_LENGTH"), (196, .class_ 628), (0, u "java/lang/StringUTF16$CodePointsSpliterator"), (0, .class_ 630), (0, u "java/lang/StringUTF16$CharsSpliterator")] 4

def k11m0 : Method := { name := "<init>", desc := "()V", sig := { parameters := [], returnType := none }, accessFlags := 0, code := none }
def k11c1 : Code := { maxStack := 2, maxLocals := 2, code := jdk_52_method_15_code, exceptionTable := #[], attributes := #[] }
def k11m1 : Method := { name := "coderFromArrayLen", desc := "([BI)B", sig := { parameters := [(.array .byte), .int], returnType := some .byte }, accessFlags := 8, code := some k11c1 }
def k11c2 : Code := { maxStack := 5, maxLocals := 6, code := jdk_52_method_16_code, exceptionTable := #[], attributes := #[] }
def k11m2 : Method := { name := "compress", desc := "([CII)[B", sig := { parameters := [(.array .char), .int, .int], returnType := some (.array .byte) }, accessFlags := 9, code := some k11c2 }
def k11c3 : Code := { maxStack := 3, maxLocals := 7, code := jdk_52_method_21_code, exceptionTable := #[], attributes := #[] }
def k11m3 : Method := { name := "compress", desc := "([CI[BII)I", sig := { parameters := [(.array .char), .int, (.array .byte), .int, .int], returnType := some .int }, accessFlags := 9, code := some k11c3 }
/-- java/lang/StringUTF16 -/
def k11 : Class := { plain "java/lang/StringUTF16" (some 0) with
  accessFlags := 48
  interfaces := #[]
  cf := some (fileOf pool11 12 #[.nestMembers #[627, 629, 369]] #[{ accessFlags := 0, nameIndex := 9, descriptorIndex := 10, attributes := #[] }, { accessFlags := 8, nameIndex := 261, descriptorIndex := 262, attributes := #[] }, { accessFlags := 9, nameIndex := 117, descriptorIndex := 122, attributes := #[] }, { accessFlags := 9, nameIndex := 117, descriptorIndex := 118, attributes := #[] }] 48 6 #[] #[{ accessFlags := 26, nameIndex := 61, descriptorIndex := 62, attributes := #[] }, { accessFlags := 26, nameIndex := 65, descriptorIndex := 62, attributes := #[] }, { accessFlags := 24, nameIndex := 430, descriptorIndex := 62, attributes := #[] }, { accessFlags := 4120, nameIndex := 46, descriptorIndex := 47, attributes := #[] }])
  fields := #[{ name := "HI_BYTE_SHIFT", type := .int, accessFlags := 26, slot := 0, constantValue := 0 }, { name := "LO_BYTE_SHIFT", type := .int, accessFlags := 26, slot := 1, constantValue := 0 }, { name := "MAX_LENGTH", type := .int, accessFlags := 24, slot := 2, constantValue := 0 }, { name := "$assertionsDisabled", type := .boolean, accessFlags := 4120, slot := 3, constantValue := 0 }]
  methods := #[k11m0, k11m1, k11m2, k11m3]
  instanceTypes := #[]
  staticTypes := #[.int, .int, .int, .boolean]
  resolved := Array.replicate 635 none
  statics := none }

def pool12 : Array CpInfo := pool [(1, .class_ 2), (0, u "java/lang/Cloneable"), (0, .class_ 4), (0, u "java/lang/Object")] 2

/-- java/lang/Cloneable -/
def k12 : Class := { plain "java/lang/Cloneable" (some 0) with
  accessFlags := 1537
  interfaces := #[]
  cf := some (fileOf pool12 1 #[] #[] 1537 3 #[] #[])
  fields := #[]
  methods := #[]
  instanceTypes := #[]
  staticTypes := #[]
  resolved := Array.replicate 7 none
  statics := none }

def pool13 : Array CpInfo := pool [(4, .class_ 6), (1, u "java/lang/Object"), (0, u "<init>"), (0, u "()V"), (5, .class_ 16), (1, u "java/lang/StringLatin1"), (104, u "$assertionsDisabled"), (0, u "Z"), (98, .class_ 223), (1, u "java/lang/StringLatin1$LinesSpliterator"), (57, u "equals"), (0, u "([B[B)Z"), (107, .class_ 391), (0, u "java/lang/StringLatin1$CharsSpliterator")] 3

def k13m0 : Method := { name := "<init>", desc := "()V", sig := { parameters := [], returnType := none }, accessFlags := 0, code := none }
def k13c1 : Code := { maxStack := 3, maxLocals := 3, code := jdk_43_method_13_code, exceptionTable := #[], attributes := #[] }
def k13m1 : Method := { name := "equals", desc := "([B[B)Z", sig := { parameters := [(.array .byte), (.array .byte)], returnType := some .boolean }, accessFlags := 9, code := some k13c1 }
/-- java/lang/StringLatin1 -/
def k13 : Class := { plain "java/lang/StringLatin1" (some 0) with
  accessFlags := 48
  interfaces := #[]
  cf := some (fileOf pool13 14 #[.nestMembers #[390, 221]] #[{ accessFlags := 0, nameIndex := 7, descriptorIndex := 8, attributes := #[] }, { accessFlags := 9, nameIndex := 281, descriptorIndex := 282, attributes := #[] }] 48 4 #[] #[{ accessFlags := 4120, nameIndex := 121, descriptorIndex := 122, attributes := #[] }])
  fields := #[{ name := "$assertionsDisabled", type := .boolean, accessFlags := 4120, slot := 0, constantValue := 0 }]
  methods := #[k13m0, k13m1]
  instanceTypes := #[]
  staticTypes := #[.boolean]
  resolved := Array.replicate 395 none
  statics := none }

def pool14 : Array CpInfo := pool [(2, .class_ 4), (1, u "java/lang/Object"), (0, u "<init>"), (0, u "()V"), (17, .class_ 26), (1, u "jdk/internal/util/Preconditions"), (28, .class_ 56), (0, u "jdk/internal/util/Preconditions$4"), (57, .class_ 115), (0, u "jdk/internal/util/Preconditions$1"), (7, u "SIOOBE_FORMATTER"), (0, u "Ljava/util/function/BiFunction;"), (0, .class_ 126), (0, u "jdk/internal/util/Preconditions$2"), (3, u "AIOOBE_FORMATTER"), (0, .class_ 132), (0, u "jdk/internal/util/Preconditions$3"), (3, u "IOOBE_FORMATTER")] 57

def k14m0 : Method := { name := "<init>", desc := "()V", sig := { parameters := [], returnType := none }, accessFlags := 1, code := none }
/-- jdk/internal/util/Preconditions -/
def k14 : Class := { plain "jdk/internal/util/Preconditions" (some 0) with
  accessFlags := 33
  interfaces := #[]
  cf := some (fileOf pool14 24 #[.nestMembers #[55, 131, 125, 114]] #[{ accessFlags := 1, nameIndex := 5, descriptorIndex := 6, attributes := #[] }] 33 2 #[] #[{ accessFlags := 25, nameIndex := 123, descriptorIndex := 124, attributes := #[] }, { accessFlags := 25, nameIndex := 130, descriptorIndex := 124, attributes := #[] }, { accessFlags := 25, nameIndex := 136, descriptorIndex := 124, attributes := #[] }])
  fields := #[{ name := "SIOOBE_FORMATTER", type := (.object "java/util/function/BiFunction"), accessFlags := 25, slot := 0, constantValue := 0 }, { name := "AIOOBE_FORMATTER", type := (.object "java/util/function/BiFunction"), accessFlags := 25, slot := 1, constantValue := 0 }, { name := "IOOBE_FORMATTER", type := (.object "java/util/function/BiFunction"), accessFlags := 25, slot := 2, constantValue := 0 }]
  methods := #[k14m0]
  instanceTypes := #[]
  staticTypes := #[(.object "java/util/function/BiFunction"), (.object "java/util/function/BiFunction"), (.object "java/util/function/BiFunction")]
  resolved := Array.replicate 194 none
  statics := some 3 }

def pool15 : Array CpInfo := pool [(9, u "<init>"), (6, .class_ 18), (1, u "java/lang/Object"), (0, u "()V"), (1, .class_ 23), (1, u "jdk/internal/util/ArraysSupport"), (0, u "LOG2_ARRAY_LONG_INDEX_SCALE"), (0, u "I"), (2, u "U"), (0, u "Ljdk/internal/misc/Unsafe;"), (8, u "BIG_ENDIAN"), (0, u "Z"), (8, u "LOG2_BYTE_BIT_SIZE"), (4, u "LOG2_ARRAY_INT_INDEX_SCALE"), (54, u "JLA"), (0, u "Ljdk/internal/access/JavaLangAccess;"), (11, u "LOG2_ARRAY_BOOLEAN_INDEX_SCALE"), (9, u "LOG2_ARRAY_BYTE_INDEX_SCALE"), (5, u "LOG2_ARRAY_CHAR_INDEX_SCALE"), (5, u "LOG2_ARRAY_SHORT_INDEX_SCALE"), (18, u "LOG2_ARRAY_FLOAT_INDEX_SCALE"), (24, u "LOG2_ARRAY_DOUBLE_INDEX_SCALE"), (89, u "T_BOOLEAN"), (2, u "T_CHAR"), (1, u "T_FLOAT"), (1, u "T_DOUBLE"), (1, u "T_BYTE"), (1, u "T_SHORT"), (1, u "T_INT"), (1, u "T_LONG"), (1, u "SOFT_MAX_ARRAY_LENGTH")] 83

def k15m0 : Method := { name := "<init>", desc := "()V", sig := { parameters := [], returnType := none }, accessFlags := 2, code := none }
/-- jdk/internal/util/ArraysSupport -/
def k15 : Class := { plain "jdk/internal/util/ArraysSupport" (some 0) with
  accessFlags := 33
  interfaces := #[]
  cf := some (fileOf pool15 21 #[] #[{ accessFlags := 2, nameIndex := 9, descriptorIndex := 19, attributes := #[] }] 33 16 #[] #[{ accessFlags := 24, nameIndex := 28, descriptorIndex := 29, attributes := #[] }, { accessFlags := 26, nameIndex := 38, descriptorIndex := 39, attributes := #[] }, { accessFlags := 25, nameIndex := 121, descriptorIndex := 25, attributes := #[] }, { accessFlags := 25, nameIndex := 131, descriptorIndex := 25, attributes := #[] }, { accessFlags := 25, nameIndex := 137, descriptorIndex := 25, attributes := #[] }, { accessFlags := 25, nameIndex := 143, descriptorIndex := 25, attributes := #[] }, { accessFlags := 25, nameIndex := 53, descriptorIndex := 25, attributes := #[] }, { accessFlags := 25, nameIndex := 24, descriptorIndex := 25, attributes := #[] }, { accessFlags := 25, nameIndex := 162, descriptorIndex := 25, attributes := #[] }, { accessFlags := 25, nameIndex := 187, descriptorIndex := 25, attributes := #[] }, { accessFlags := 26, nameIndex := 48, descriptorIndex := 25, attributes := #[] }, { accessFlags := 25, nameIndex := 277, descriptorIndex := 25, attributes := #[] }, { accessFlags := 25, nameIndex := 280, descriptorIndex := 25, attributes := #[] }, { accessFlags := 25, nameIndex := 282, descriptorIndex := 25, attributes := #[] }, { accessFlags := 25, nameIndex := 284, descriptorIndex := 25, attributes := #[] }, { accessFlags := 25, nameIndex := 286, descriptorIndex := 25, attributes := #[] }, { accessFlags := 25, nameIndex := 288, descriptorIndex := 25, attributes := #[] }, { accessFlags := 25, nameIndex := 290, descriptorIndex := 25, attributes := #[] }, { accessFlags := 25, nameIndex := 292, descriptorIndex := 25, attributes := #[] }, { accessFlags := 26, nameIndex := 108, descriptorIndex := 109, attributes := #[] }, { accessFlags := 25, nameIndex := 294, descriptorIndex := 25, attributes := #[] }])
  fields := #[{ name := "U", type := (.object "jdk/internal/misc/Unsafe"), accessFlags := 24, slot := 0, constantValue := 0 }, { name := "BIG_ENDIAN", type := .boolean, accessFlags := 26, slot := 1, constantValue := 0 }, { name := "LOG2_ARRAY_BOOLEAN_INDEX_SCALE", type := .int, accessFlags := 25, slot := 2, constantValue := 0 }, { name := "LOG2_ARRAY_BYTE_INDEX_SCALE", type := .int, accessFlags := 25, slot := 3, constantValue := 0 }, { name := "LOG2_ARRAY_CHAR_INDEX_SCALE", type := .int, accessFlags := 25, slot := 4, constantValue := 0 }, { name := "LOG2_ARRAY_SHORT_INDEX_SCALE", type := .int, accessFlags := 25, slot := 5, constantValue := 0 }, { name := "LOG2_ARRAY_INT_INDEX_SCALE", type := .int, accessFlags := 25, slot := 6, constantValue := 0 }, { name := "LOG2_ARRAY_LONG_INDEX_SCALE", type := .int, accessFlags := 25, slot := 7, constantValue := 0 }, { name := "LOG2_ARRAY_FLOAT_INDEX_SCALE", type := .int, accessFlags := 25, slot := 8, constantValue := 0 }, { name := "LOG2_ARRAY_DOUBLE_INDEX_SCALE", type := .int, accessFlags := 25, slot := 9, constantValue := 0 }, { name := "LOG2_BYTE_BIT_SIZE", type := .int, accessFlags := 26, slot := 10, constantValue := 0 }, { name := "T_BOOLEAN", type := .int, accessFlags := 25, slot := 11, constantValue := 0 }, { name := "T_CHAR", type := .int, accessFlags := 25, slot := 12, constantValue := 0 }, { name := "T_FLOAT", type := .int, accessFlags := 25, slot := 13, constantValue := 0 }, { name := "T_DOUBLE", type := .int, accessFlags := 25, slot := 14, constantValue := 0 }, { name := "T_BYTE", type := .int, accessFlags := 25, slot := 15, constantValue := 0 }, { name := "T_SHORT", type := .int, accessFlags := 25, slot := 16, constantValue := 0 }, { name := "T_INT", type := .int, accessFlags := 25, slot := 17, constantValue := 0 }, { name := "T_LONG", type := .int, accessFlags := 25, slot := 18, constantValue := 0 }, { name := "JLA", type := (.object "jdk/internal/access/JavaLangAccess"), accessFlags := 26, slot := 19, constantValue := 0 }, { name := "SOFT_MAX_ARRAY_LENGTH", type := .int, accessFlags := 25, slot := 20, constantValue := 0 }]
  methods := #[k15m0]
  instanceTypes := #[]
  staticTypes := #[(.object "jdk/internal/misc/Unsafe"), .boolean, .int, .int, .int, .int, .int, .int, .int, .int, .int, .int, .int, .int, .int, .int, .int, .int, .int, (.object "jdk/internal/access/JavaLangAccess"), .int]
  resolved := Array.replicate 378 none
  statics := none }

/-- the primitive byte -/
def k16 : Class := { plain "byte" none with kind := .primitive 'B', accessFlags := 0x411 }
/-- [B -/
def k17 : Class := { plain "[B" (some 0) with kind := .array 16 .byte, interfaces := #[12, 4], accessFlags := 1041 }

/-- the primitive char -/
def k18 : Class := { plain "char" none with kind := .primitive 'C', accessFlags := 0x411 }
/-- [C -/
def k19 : Class := { plain "[C" (some 0) with kind := .array 18 .char, interfaces := #[12, 4], accessFlags := 1041 }

/-- the primitive int -/
def k20 : Class := { plain "int" none with kind := .primitive 'I', accessFlags := 0x411 }
/-- [I -/
def k21 : Class := { plain "[I" (some 0) with kind := .array 20 .int, interfaces := #[12, 4], accessFlags := 1041 }

/-- [Lcom/example/scopa/scopa/schema/DeleteAction; -/
def k22 : Class := { plain "[Lcom/example/scopa/scopa/schema/DeleteAction;" (some 0) with kind := .array 6 (.object "com/example/scopa/scopa/schema/DeleteAction"), interfaces := #[12, 4], accessFlags := 1041 }

def heap : Heap := #[{ cls := 6, slots := #[.ref 18, .ref 19, .ref 20, .ref 21, .ref 22, .ref 4], vm := .statics 6 },
  { cls := 7, slots := #[.ref 16, .ref 15, .null, .null, .ref 17, .null], vm := .statics 7 },
  { cls := 10, slots := #[.long 0, .int 1, .null, .int 0, .null, .int 0, .int 0], vm := .statics 10 },
  { cls := 14, slots := #[.null, .null, .null], vm := .statics 14 },
  { cls := 22, slots := #[.ref 18, .ref 19, .ref 20, .ref 21, .ref 22], vm := .none },
  { cls := 17, slots := #[.int 97], vm := .none },
  { cls := 17, slots := #[.int 114], vm := .none },
  { cls := 17, slots := #[.int 99], vm := .none },
  { cls := 17, slots := #[.int 110], vm := .none },
  { cls := 17, slots := #[.int 100], vm := .none },
  { cls := 10, slots := #[.ref 5, .int 0, .int 0, .int 0], vm := .none },
  { cls := 10, slots := #[.ref 6, .int 0, .int 0, .int 0], vm := .none },
  { cls := 10, slots := #[.ref 7, .int 0, .int 0, .int 0], vm := .none },
  { cls := 10, slots := #[.ref 8, .int 0, .int 0, .int 0], vm := .none },
  { cls := 10, slots := #[.ref 9, .int 0, .int 0, .int 0], vm := .none },
  { cls := 7, slots := #[.null, .int 0, .int 0, .int 0, .int 0, .int 0, .int 0], vm := .none },
  { cls := 7, slots := #[.null, .int 1, .int 0, .int 0, .int 0, .int 0, .int 0], vm := .none },
  { cls := 7, slots := #[.null, .int 2, .int 0, .int 0, .int 0, .int 0, .int 0], vm := .none },
  { cls := 6, slots := #[.null, .int 0, .int 0, .ref 10, .ref 15], vm := .none },
  { cls := 6, slots := #[.null, .int 1, .int 0, .ref 11, .ref 15], vm := .none },
  { cls := 6, slots := #[.null, .int 2, .int 0, .ref 12, .ref 16], vm := .none },
  { cls := 6, slots := #[.null, .int 3, .int 0, .ref 13, .ref 17], vm := .none },
  { cls := 6, slots := #[.null, .int 4, .int 0, .ref 14, .ref 17], vm := .none }]
def classes : Array Class := #[k0, k1, k2, k3, k4, k5, k6, k7, k8, k9, k10, k11, k12, k13, k14, k15, k16, k17, k18, k19, k20, k21, k22]
def interned : List (Array UInt16 × Addr) := []
def slotsUsed : Nat := 98
def theMethod : MethodId := ⟨1, 1⟩
def args0 : Array Value := #[.int 1]
def aboutOver (below : List Frame) : State where
  vm := { classes := classes, interned := interned.toArray }
  heap := heap
  slotsUsed := slotsUsed
  threads := #[{ frames := .invoking theMethod args0 :: below }]
def below0 : List Frame := [.native { method := ⟨0, 0⟩, args := #[] }]
def about1 : State := aboutOver below0
def p0 : Program := .bare "" "" ""
def e0 : Env := launch0.env 0 0 0
theorem w_frames : about1.frames = Frame.invoking theMethod args0 :: below0 := rfl
set_option maxRecDepth 65536 in
theorem w_args : argsFit about1.vm theMethod args0 = true := by decide +kernel
set_option maxRecDepth 65536 in
theorem w_heap : heapFits about1 = true := by decide +kernel
set_option maxRecDepth 65536 in
theorem w_runnable : about1.curStatus? = some .runnable := by decide +kernel
set_option maxRecDepth 65536 in
theorem w_alone : about1.alone = true := by decide +kernel
set_option maxRecDepth 65536 in
theorem w_named : about1.methodNamed? x = some theMethod := by decide +kernel
set_option maxRecDepth 65536 in
theorem w_hears : about1.hears theMethod below0 = true := by decide +kernel
set_option maxRecDepth 65536 in
theorem w_ripe : about1.ripe theMethod args0 below0 = true := by decide +kernel
theorem w_running : about1.status = .running := rfl
set_option maxRecDepth 65536 in
theorem w_room : about1.hasRoom e0.platform room_1 = true :=
  launch0.hasRoom_least _ room_1 (by decide +kernel) (by decide +kernel) (by decide +kernel) (by decide +kernel) (by decide +kernel) (by decide +kernel)
theorem allAtoms_all (ts : List Jvm.Cond) (a : Array Jvm.Value) (st : Jvm.State) : (allAtoms ts).before a st = ts.all (fun c => c.before a st) := by
  induction ts with
  | nil => rfl
  | cons c t ih =>
    show (Jvm.Cond.and c (allAtoms t)).before a st = _
    rw [Jvm.Cond.before_and, ih, List.all_cons]
def words1 : List Jvm.Cond := Jvm.Cond.code x code maxLocals ret :: tables_1
/-- a 'code' word, met by the world's own term for the bytes: nothing is compared byte by byte -/
theorem code_word {y : MethodName} {bytes : ByteArray} {mx : Nat} {rt : Option FieldType} {a : Array Value} {s : State} {m : MethodId} {meth : Method} {c : Code} (h1 : s.methodNamed? y = some m) (h2 : s.vm.method? m = some meth) (h3 : meth.code = some c) (h4 : c.code = bytes)
    (h5 : (c.maxLocals == mx && c.exceptionTable.isEmpty && decide (c.maxStack ≤ mostOperands) && decide (meth.sig.returnType = rt) && !meth.locks && decide (parseMethodDescriptor y.desc = some meth.sig)) = true) : (Jvm.Cond.code y bytes mx rt).before a s = true := by
  simp only [Bool.and_eq_true, beq_iff_eq, Bool.not_eq_true', decide_eq_true_eq] at h5
  obtain ⟨⟨⟨⟨⟨g1, g2⟩, g3⟩, g4⟩, g5⟩, g6⟩ := h5
  simp [Cond.before, Cond.holds, Cond.value, h1, h2, h3, h4, g1, g2, g3, g4, g5, g6]
def isCode : Jvm.Cond → Bool
  | .code _ _ _ _ => true
  | _ => false
theorem all_split {L : List Jvm.Cond} {P : Jvm.Cond → Bool} (h1 : L.all (fun c => isCode c || P c) = true) (h2 : ∀ c ∈ L.filter isCode, P c = true) : L.all P = true := by
  refine List.all_eq_true.mpr fun c hc => ?_
  have h := List.all_eq_true.mp h1 c hc
  rcases Bool.eq_false_or_eq_true (isCode c) with hi | hi
  · exact h2 c (List.mem_filter.mpr ⟨hc, hi⟩)
  · simpa [hi] using h
set_option maxRecDepth 65536 in
theorem w_c0 : (Jvm.Cond.code x code maxLocals ret).before args0 about1 = true := code_word (m := ⟨1, 1⟩) (meth := k1m1) (c := k1c1) (by decide +kernel) rfl rfl rfl (by decide +kernel)
set_option maxRecDepth 65536 in
theorem w_c1 : (Jvm.Cond.code ({ cls := "java/lang/String", name := "<init>", desc := "([C)V" } : Jvm.MethodName) jdk_42_method_3_code (2 : Nat) (Option.none : Option Jvm.ClassFile.FieldType)).before args0 about1 = true := code_word (m := ⟨10, 1⟩) (meth := k10m1) (c := k10c1) (by decide +kernel) rfl rfl rfl (by decide +kernel)
set_option maxRecDepth 65536 in
theorem w_c2 : (Jvm.Cond.code ({ cls := "java/lang/String", name := "<init>", desc := "([CIILjava/lang/Void;)V" } : Jvm.MethodName) jdk_42_method_149_code (6 : Nat) (Option.none : Option Jvm.ClassFile.FieldType)).before args0 about1 = true := code_word (m := ⟨10, 3⟩) (meth := k10m3) (c := k10c3) (by decide +kernel) rfl rfl rfl (by decide +kernel)
set_option maxRecDepth 65536 in
theorem w_c3 : (Jvm.Cond.code ({ cls := "java/lang/Object", name := "<init>", desc := "()V" } : Jvm.MethodName) object_method_1_code (1 : Nat) (Option.none : Option Jvm.ClassFile.FieldType)).before args0 about1 = true := code_word (m := ⟨0, 0⟩) (meth := k0m0) (c := k0c0) (by decide +kernel) rfl rfl rfl (by decide +kernel)
set_option maxRecDepth 65536 in
theorem w_c4 : (Jvm.Cond.code ({ cls := "java/lang/StringUTF16", name := "compress", desc := "([CII)[B" } : Jvm.MethodName) jdk_52_method_16_code (6 : Nat) (Option.some (Jvm.ClassFile.FieldType.array Jvm.ClassFile.FieldType.byte))).before args0 about1 = true := code_word (m := ⟨11, 2⟩) (meth := k11m2) (c := k11c2) (by decide +kernel) rfl rfl rfl (by decide +kernel)
set_option maxRecDepth 65536 in
theorem w_c5 : (Jvm.Cond.code ({ cls := "java/lang/StringUTF16", name := "compress", desc := "([CI[BII)I" } : Jvm.MethodName) jdk_52_method_21_code (7 : Nat) (Option.some Jvm.ClassFile.FieldType.int)).before args0 about1 = true := code_word (m := ⟨11, 3⟩) (meth := k11m3) (c := k11c3) (by decide +kernel) rfl rfl rfl (by decide +kernel)
set_option maxRecDepth 65536 in
theorem w_c6 : (Jvm.Cond.code ({ cls := "java/lang/StringUTF16", name := "coderFromArrayLen", desc := "([BI)B" } : Jvm.MethodName) jdk_52_method_15_code (2 : Nat) (Option.some Jvm.ClassFile.FieldType.byte)).before args0 about1 = true := code_word (m := ⟨11, 1⟩) (meth := k11m1) (c := k11c1) (by decide +kernel) rfl rfl rfl (by decide +kernel)
set_option maxRecDepth 65536 in
theorem w_c7 : (Jvm.Cond.code ({ cls := "com/example/scopa/scopa/schema/DeleteAction", name := "fromCatalogCode", desc := "(Ljava/lang/String;)Lcom/example/scopa/scopa/schema/DeleteAction;" } : Jvm.MethodName) prog_10_method_4_code (5 : Nat) (Option.some (Jvm.ClassFile.FieldType.object "com/example/scopa/scopa/schema/DeleteAction"))).before args0 about1 = true := code_word (m := ⟨6, 1⟩) (meth := k6m1) (c := k6c1) (by decide +kernel) rfl rfl rfl (by decide +kernel)
set_option maxRecDepth 65536 in
theorem w_c8 : (Jvm.Cond.code ({ cls := "com/example/scopa/scopa/schema/DeleteAction", name := "values", desc := "()[Lcom/example/scopa/scopa/schema/DeleteAction;" } : Jvm.MethodName) prog_10_method_1_code (0 : Nat) (Option.some (Jvm.ClassFile.FieldType.array (Jvm.ClassFile.FieldType.object "com/example/scopa/scopa/schema/DeleteAction")))).before args0 about1 = true := code_word (m := ⟨6, 0⟩) (meth := k6m0) (c := k6c0) (by decide +kernel) rfl rfl rfl (by decide +kernel)
set_option maxRecDepth 65536 in
theorem w_c9 : (Jvm.Cond.code ({ cls := "java/lang/String", name := "equals", desc := "(Ljava/lang/Object;)Z" } : Jvm.MethodName) jdk_42_method_66_code (3 : Nat) (Option.some Jvm.ClassFile.FieldType.boolean)).before args0 about1 = true := code_word (m := ⟨10, 2⟩) (meth := k10m2) (c := k10c2) (by decide +kernel) rfl rfl rfl (by decide +kernel)
set_option maxRecDepth 65536 in
theorem w_c10 : (Jvm.Cond.code ({ cls := "java/lang/StringLatin1", name := "equals", desc := "([B[B)Z" } : Jvm.MethodName) jdk_43_method_13_code (3 : Nat) (Option.some Jvm.ClassFile.FieldType.boolean)).before args0 about1 = true := code_word (m := ⟨13, 1⟩) (meth := k13m1) (c := k13c1) (by decide +kernel) rfl rfl rfl (by decide +kernel)
set_option maxRecDepth 65536 in
theorem w_c11 : (Jvm.Cond.code ({ cls := "com/example/scopa/scopa/schema/DeleteAction", name := "rule", desc := "()Lcom/example/scopa/scopa/schema/DeletionRule;" } : Jvm.MethodName) prog_10_method_5_code (1 : Nat) (Option.some (Jvm.ClassFile.FieldType.object "com/example/scopa/scopa/schema/DeletionRule"))).before args0 about1 = true := code_word (m := ⟨6, 2⟩) (meth := k6m2) (c := k6c2) (by decide +kernel) rfl rfl rfl (by decide +kernel)
def codes1 : List Jvm.Cond := [Jvm.Cond.code x code maxLocals ret, Jvm.Cond.code ({ cls := "java/lang/String", name := "<init>", desc := "([C)V" } : Jvm.MethodName) jdk_42_method_3_code (2 : Nat) (Option.none : Option Jvm.ClassFile.FieldType), Jvm.Cond.code ({ cls := "java/lang/String", name := "<init>", desc := "([CIILjava/lang/Void;)V" } : Jvm.MethodName) jdk_42_method_149_code (6 : Nat) (Option.none : Option Jvm.ClassFile.FieldType), Jvm.Cond.code ({ cls := "java/lang/Object", name := "<init>", desc := "()V" } : Jvm.MethodName) object_method_1_code (1 : Nat) (Option.none : Option Jvm.ClassFile.FieldType), Jvm.Cond.code ({ cls := "java/lang/StringUTF16", name := "compress", desc := "([CII)[B" } : Jvm.MethodName) jdk_52_method_16_code (6 : Nat) (Option.some (Jvm.ClassFile.FieldType.array Jvm.ClassFile.FieldType.byte)), Jvm.Cond.code ({ cls := "java/lang/StringUTF16", name := "compress", desc := "([CI[BII)I" } : Jvm.MethodName) jdk_52_method_21_code (7 : Nat) (Option.some Jvm.ClassFile.FieldType.int), Jvm.Cond.code ({ cls := "java/lang/StringUTF16", name := "coderFromArrayLen", desc := "([BI)B" } : Jvm.MethodName) jdk_52_method_15_code (2 : Nat) (Option.some Jvm.ClassFile.FieldType.byte), Jvm.Cond.code ({ cls := "com/example/scopa/scopa/schema/DeleteAction", name := "fromCatalogCode", desc := "(Ljava/lang/String;)Lcom/example/scopa/scopa/schema/DeleteAction;" } : Jvm.MethodName) prog_10_method_4_code (5 : Nat) (Option.some (Jvm.ClassFile.FieldType.object "com/example/scopa/scopa/schema/DeleteAction")), Jvm.Cond.code ({ cls := "com/example/scopa/scopa/schema/DeleteAction", name := "values", desc := "()[Lcom/example/scopa/scopa/schema/DeleteAction;" } : Jvm.MethodName) prog_10_method_1_code (0 : Nat) (Option.some (Jvm.ClassFile.FieldType.array (Jvm.ClassFile.FieldType.object "com/example/scopa/scopa/schema/DeleteAction"))), Jvm.Cond.code ({ cls := "java/lang/String", name := "equals", desc := "(Ljava/lang/Object;)Z" } : Jvm.MethodName) jdk_42_method_66_code (3 : Nat) (Option.some Jvm.ClassFile.FieldType.boolean), Jvm.Cond.code ({ cls := "java/lang/StringLatin1", name := "equals", desc := "([B[B)Z" } : Jvm.MethodName) jdk_43_method_13_code (3 : Nat) (Option.some Jvm.ClassFile.FieldType.boolean), Jvm.Cond.code ({ cls := "com/example/scopa/scopa/schema/DeleteAction", name := "rule", desc := "()Lcom/example/scopa/scopa/schema/DeletionRule;" } : Jvm.MethodName) prog_10_method_5_code (1 : Nat) (Option.some (Jvm.ClassFile.FieldType.object "com/example/scopa/scopa/schema/DeletionRule"))]
set_option maxRecDepth 65536 in
theorem codes_eq : words1.filter isCode = codes1 := rfl
theorem w_codes : ∀ c ∈ words1.filter isCode, c.before args0 about1 = true := by
  rw [codes_eq]
  intro c hc
  simp only [codes1, List.mem_cons, List.not_mem_nil, or_false] at hc
  rcases hc with rfl | rfl | rfl | rfl | rfl | rfl | rfl | rfl | rfl | rfl | rfl | rfl
  · exact w_c0
  · exact w_c1
  · exact w_c2
  · exact w_c3
  · exact w_c4
  · exact w_c5
  · exact w_c6
  · exact w_c7
  · exact w_c8
  · exact w_c9
  · exact w_c10
  · exact w_c11
set_option maxRecDepth 65536 in
theorem w_t1 : (words1.take 24).all (fun c => isCode c || c.before args0 about1) = true := by decide +kernel
set_option maxRecDepth 65536 in
theorem w_t2 : ((words1.drop 24).take 24).all (fun c => isCode c || c.before args0 about1) = true := by decide +kernel
set_option maxRecDepth 65536 in
theorem w_t3 : (((words1.drop 24).drop 24).take 24).all (fun c => isCode c || c.before args0 about1) = true := by decide +kernel
set_option maxRecDepth 65536 in
theorem w_t4 : (((words1.drop 24).drop 24).drop 24).all (fun c => isCode c || c.before args0 about1) = true := by decide +kernel
theorem w_tables : (allAtoms (Jvm.Cond.code x code maxLocals ret :: tables_1)).before args0 about1 = true := by
  rw [allAtoms_all]
  show words1.all (fun c => c.before args0 about1) = true
  refine all_split ?_ w_codes
  rw [← List.take_append_drop 24 words1, List.all_append, w_t1, ← List.take_append_drop 24 (words1.drop 24), List.all_append, w_t2, ← List.take_append_drop 24 ((words1.drop 24).drop 24), List.all_append, w_t3, w_t4]
  rfl
set_option maxRecDepth 65536 in
theorem w_rest : rest_1_c.before args0 about1 = true := by decide +kernel
set_option maxRecDepth 65536 in
theorem w_case : (Jvm.Cond.and given_1 narrow_1).before args0 about1 = true := by decide +kernel
theorem w_applies : (headSpec (Jvm.Cond.code x code maxLocals ret :: tables_1) room_1).applies x e0.platform about1 = true :=
  (Spec.applies_iff w_frames).mpr ⟨w_running, w_runnable, w_alone, w_named, w_hears, w_ripe, w_room, w_tables⟩
theorem atStart : AtStart classFile x code maxLocals ret World_1 tables_1 room_1 Calls_1 rest_1 Pre_1 launch0 p0 e0 about1 theMethod args0 below0 :=
  ⟨lists_1, trivial, launch0.admits_env _ _ _, launch0.least_env, fairChoices_fair.cas, fairChoices_fair.clock, w_frames, w_args, w_heap, w_applies, trivial, w_rest, w_case⟩
end start1
theorem witness_1 : WitnessClaimed_1 := ⟨start1.p0, start1.e0, start1.about1, start1.theMethod, start1.args0, start1.below0, start1.atStart⟩
end Jvm.Pilot.@@N@@
