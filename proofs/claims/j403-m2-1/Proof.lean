import JvmDerived
import JvmDerived.Pilot.@@N@@Statement
import JvmDerived.Pilot.@@N@@Code
set_option linter.unusedVariables false
set_option linter.unusedSimpArgs false
namespace Jvm.Pilot.@@N@@
open Jvm Jvm.ClassFile Sem Op Lib Jvm.Free Jvm.Stand Jvm.LawKit Jvm.RoadKit Bundle Jvm.Pilot.@@N@@.Jvm.D
section Own
variable {p : Program} {l : Launch} {e : Env} {R : Room} {s : State} {m : MethodId} {args : Array Value} {below : List Frame} {meth : Method} {c : Code} {T : State} {locs : List Loc} {cells slots : Nat} {Z : State} {a0 : Array Value} {h h' : Heap} {Q : Option Value → Heap → List Loc → Prop} {rc rs : Nat}
/-- from here the run comes to its return, and what it leaves is Q -/
def Ends (p : Program) (e : Env) (below : List Frame) (s : State) (Q : Option Value → Heap → List Loc → Prop) (rc rs : Nat) (T : State) (g : JFrame) : Prop :=
  ∃ s₂ o, Steps p.tables e below (T.setTop g) s₂ ∧ s₂.status = .running ∧ Ended s₂ below o ∧ ∃ v L, o = .returned v ∧ Q v s₂.heap L ∧ FrameEnd s o s₂ L rc rs
theorem go {T' : State} {g g' : JFrame} (f : ∀ t, Steps p.tables e below (T'.setTop g') t → Steps p.tables e below (T.setTop g) t) (k : Ends p e below s Q rc rs T' g') : Ends p e below s Q rc rs T g := by
  obtain ⟨s₂, o, h1, r⟩ := k
  exact ⟨s₂, o, f _ h1, r⟩
theorem goS {T' : State} {g g' : JFrame} (f : Steps p.tables e below (T.setTop g) (T'.setTop g')) (k : Ends p e below s Q rc rs T' g') : Ends p e below s Q rc rs T g := by
  obtain ⟨s₂, o, h1, r⟩ := k
  exact ⟨s₂, o, f.trans h1, r⟩
theorem retI (X : Stand p l e R s m args below meth c T locs cells slots) (hx : p.tables.exec = Jvm.exec) {pc : Nat} {Ls : Array Slot} {z : Int32} {rest : List Value} (hret : meth.sig.returnType = some .int) (hd : decode c.code pc = .ok (.ireturn, 1)) {fs : List Frame}
    (hl : ∀ (f : JFrame) (acts : List Action), f.method = m → f.locked = none → f.entered = [] → (doReturn e (T.setTop f) acts (some (.int z))).1 = T.setFrames fs) : Steps p.tables e below (T.setTop (mkF m pc Ls (.int z :: rest))) (T.setFrames fs) := by
  have hm' : T.vm.method? m = some meth := X.method'
  have hn : narrow .int (.int z) = .int z := rfl
  show Steps p.tables e below (T.setTop { method := m, pc := pc, locals := Ls, stack := _ :: rest, locked := none }) _
  jvm_step X.here [X.here.top, hx, hd, hm', hret, hn]
  first | (intro acts; rw [hl _ acts rfl rfl rfl]) | rw [hl _ _ rfl rfl rfl]
  exact Steps.refl _
theorem endI (X : Stand p l e R s m args below meth c T locs cells slots) (hx : p.tables.exec = Jvm.exec) (hlk : meth.locks = false) {pc : Nat} {Ls : Array Slot} {z : Int32} {rest : List Value} (hret : meth.sig.returnType = some .int) (hd : decode c.code pc = .ok (.ireturn, 1)) (eT : T.heap = h) (hq : Q (some (.int z)) h locs) (hc : cells ≤ rc) (hs : slots ≤ rs) :
    Ends p e below s Q rc rs T (mkF m pc Ls (.int z :: rest)) := by
  subst eT
  obtain ⟨fs, hr, hrun, hended, hW, hsame⟩ := X.leave (v := some (.int z)) (fun h => by rw [hret] at h; cases h) hlk
  exact ⟨_, _, retI X hx hret hd hr, hrun, hended, _, _, rfl, hq, ⟨_, rfl⟩, hW, hsame.mono hc hs⟩
/-- a boolean, byte, char or short: what is returned is narrowed -/
theorem endN (X : Stand p l e R s m args below meth c T locs cells slots) (hx : p.tables.exec = Jvm.exec) (hlk : meth.locks = false) {pc : Nat} {Ls : Array Slot} {z : Int32} {t : FieldType} {rest : List Value} (hret : meth.sig.returnType = some t) (ht : t = .boolean ∨ t = .byte ∨ t = .char ∨ t = .short) (hd : decode c.code pc = .ok (.ireturn, 1)) (eT : T.heap = h) (hq : Q (some (.int (nar t z))) h locs) (hc : cells ≤ rc) (hs : slots ≤ rs) :
    Ends p e below s Q rc rs T (mkF m pc Ls (.int z :: rest)) := by
  subst eT
  obtain ⟨fs, hr, hrun, hended, hW, hsame⟩ := X.leave (v := some (.int (nar t z))) (fun h => by rw [hret] at h; cases h) hlk
  exact ⟨_, _, retN X hx hret ht hd hr, hrun, hended, _, _, rfl, hq, ⟨_, rfl⟩, hW, hsame.mono hc hs⟩
theorem endA (X : Stand p l e R s m args below meth c T locs cells slots) (hx : p.tables.exec = Jvm.exec) (hlk : meth.locks = false) {pc : Nat} {Ls : Array Slot} {w : Value} {t : FieldType} {rest : List Value} (hret : meth.sig.returnType = some t) (ht : t.isReference = true) (hw : w.isRef = true) (hd : decode c.code pc = .ok (.areturn, 1)) (eT : T.heap = h) (hq : Q (some w) h locs) (hc : cells ≤ rc) (hs : slots ≤ rs) :
    Ends p e below s Q rc rs T (mkF m pc Ls (w :: rest)) := by
  subst eT
  obtain ⟨fs, hr, hrun, hended, hW, hsame⟩ := X.leave (v := some w) (fun h => by rw [hret] at h; cases h) hlk
  have hn : narrow t w = w := by rcases ref_cases hw with rfl | ⟨b, rfl⟩ <;> cases t <;> rfl
  exact ⟨_, _, retOut X hx hret hn (Or.inr (Or.inr (Or.inr (Or.inr ⟨rfl, ht, hw⟩)))) hd hr, hrun, hended, _, _, rfl, hq, ⟨_, rfl⟩, hW, hsame.mono hc hs⟩
theorem endJ (X : Stand p l e R s m args below meth c T locs cells slots) (hx : p.tables.exec = Jvm.exec) (hlk : meth.locks = false) {pc : Nat} {Ls : Array Slot} {z : Int64} {rest : List Value} (hret : meth.sig.returnType = some .long) (hd : decode c.code pc = .ok (.lreturn, 1)) (eT : T.heap = h) (hq : Q (some (.long z)) h locs) (hc : cells ≤ rc) (hs : slots ≤ rs) :
    Ends p e below s Q rc rs T (mkF m pc Ls (.long z :: rest)) := by
  subst eT
  obtain ⟨fs, hr, hrun, hended, hW, hsame⟩ := X.leave (v := some (.long z)) (fun h => by rw [hret] at h; cases h) hlk
  exact ⟨_, _, retOut X hx hret rfl (Or.inr (Or.inl ⟨rfl, rfl, z, rfl⟩)) hd hr, hrun, hended, _, _, rfl, hq, ⟨_, rfl⟩, hW, hsame.mono hc hs⟩
theorem endV (X : Stand p l e R s m args below meth c T locs cells slots) (hx : p.tables.exec = Jvm.exec) (hlk : meth.locks = false) {pc : Nat} {Ls : Array Slot} (hret : meth.sig.returnType = none) (hd : decode c.code pc = .ok (.return_, 1)) (eT : T.heap = h) (hq : Q none h locs) (hc : cells ≤ rc) (hs : slots ≤ rs) :
    Ends p e below s Q rc rs T (mkF m pc Ls []) := by
  subst eT
  obtain ⟨fs, hr, hrun, hended, hW, hsame⟩ := X.leave (v := none) (fun _ => rfl) hlk
  exact ⟨_, _, X.returnOut hx hret hd hr, hrun, hended, _, _, rfl, hq, ⟨_, rfl⟩, hW, hsame.mono hc hs⟩
/-- a method's contract, at one heap and one list of arguments -/
def Con (l : Launch) (y : MethodName) (bytes : ByteArray) (maxL : Nat) (ret : Option FieldType) (rm : Room) (Z : State) (as' : Array Value) (h0 : Heap) (Q : Option Value → Heap → List Loc → Prop) : Prop :=
  ∀ ws, MetFree l y (head1 (Jvm.Cond.code y bytes maxL ret :: ws) rm) (fun a U => a = as' ∧ Z.Warmed39 U.vm ∧ U.heap = h0) (fun _ _ _ _ _ => True) (fun _ U o U' => ∃ v L, o = .returned v ∧ Q v U'.heap L ∧ FrameEnd U o U' L rm.cells rm.slots)
theorem Con.of {y : MethodName} {bytes : ByteArray} {maxL : Nat} {ret : Option FieldType} {rm : Room} {as' : Array Value} {h0 : Heap} (hp : plainFor y = true) {Ls : Array Slot} (hef : ∀ m, entryFrame m as' maxL = mkF m 0 Ls [])
    (body : ∀ {p : Program} {e : Env} {s : State} {m : MethodId} {below : List Frame} {meth : Method} {c : Code} {T : State}, Stand p l e rm s m as' below meth c T [] 0 0 → p.tables.exec = Jvm.exec → Z.Warmed39 s.vm → c.code = bytes → c.maxLocals = maxL → s.vm.findClass y.cls = some m.cls → meth.name = y.name → meth.sig.returnType = ret → meth.locks = false → T.heap = h0 → Ends p e below s Q rm.cells rm.slots T (mkF m 0 Ls [])) :
    Con l y bytes maxL ret rm Z as' h0 Q := by
  intro ws
  refine MetFree.of_bodySF hp hisR ?_
  intro p e s m args below meth c s₁ Bd hml0 hP hK
  obtain ⟨rfl, hZ, hh⟩ := hP
  have X0 : Stand p l e rm s m _ below meth c s₁ [] 0 0 := Stand.of_body Bd
  have e0 : s₁.heap = h0 := by rw [← hh, Bd.state]; rfl
  obtain ⟨s₂, o, h1, r⟩ := body X0 Bd.exec hZ Bd.bytes hml0 (findClass_of_methodNamed Bd.named) (name_of_methodNamed Bd.named Bd.method).1 Bd.returns Bd.notSynchronized e0
  exact ⟨s₂, o, castTop (hef m) h1, r⟩
theorem cStat {own : String} {index : Nat} {y : MethodName} {bytes : ByteArray} {maxL : Nat} {ret : Option FieldType} {rm : Room} {Q' : Option Value → Heap → List Loc → Prop} {pc : Nat} {Ls : Array Slot} {st : List Value}
    (X : Stand p l e R s m args below meth c T locs cells slots) (hx : p.tables.exec = Jvm.exec) (hZ : Z.Warmed39 s.vm) (hown : s.vm.findClass own = some m.cls) (hml : Ls.size = c.maxLocals) (eT : T.heap = h)
    (w1 : (Cond.methodLink own index y).before a0 Z = true) (w2 : (Cond.static y).before a0 Z = true) (w3 : (Cond.initialized y.cls).before a0 Z = true) (w4 : (Cond.code y bytes maxL ret).before a0 Z = true)
    (argsL rest : List Value) {as' : Array Value} (has : argsL.toArray = as') (hM : Con l y bytes maxL ret rm Z as' h Q') (hd : decode c.code pc = .ok (.invokestatic index, 3)) (hst : st = argsL.reverse ++ rest)
    (hlen : ∀ sig, parseMethodDescriptor y.desc = some sig → argsL.length = sig.parameters.length) (hy : y.cls ≠ "java/lang/invoke/MethodHandle" ∧ y.cls ≠ "java/lang/invoke/VarHandle")
    (hf : rm.frames + 1 ≤ R.frames) (hl : (rest.map fun v => v.category).sum + (maxL + 11) + rm.locals ≤ R.locals) (hc : cells + rm.cells ≤ R.cells) (hs : slots + rm.slots ≤ R.slots)
    (k : ∀ v T' h' L, Stand p l e R s m args below meth c T' (locs ++ L) (cells + rm.cells) (slots + rm.slots) → T'.heap = h' → Q' v h' L → Ends p e below s Q rc rs T' (mkF m (pc + 3) Ls (v.toList ++ rest))) :
    Ends p e below s Q rc rs T (mkF m pc Ls st) := by
  subst has
  obtain ⟨v, _, ⟨T', L', k', n'⟩, -, X', ⟨Lc, hQ, e1, e2, e3⟩, stp⟩ := Jvm.LawKit.callS X hx (y := y) hown (mvT hZ w1) (mvT hZ w2) (mvT hZ w3) (mvT hZ w4) hy (backOf (W := (rest.map fun v => v.category).sum) (hM []) hZ w4 w3 hf hl) (g := mkF m pc Ls st) rfl hml (argsL := argsL) (rest := rest) hlen hst (by show 2 * 0 + _ ≤ _; omega) hd (fun _ _ => ⟨rfl, eT, hc, hs⟩)
  dsimp only [Pt.U, Pt.locs, Pt.cells, Pt.slots] at X' e1 e2 e3 stp hQ
  subst e1 e2 e3
  exact go stp (k v T' _ Lc X' rfl hQ)
theorem cInit {own : String} {index : Nat} {y : MethodName} {bytes : ByteArray} {maxL : Nat} {rm : Room} {Q' : Option Value → Heap → List Loc → Prop} {pc : Nat} {Ls : Array Slot} {st : List Value}
    (X : Stand p l e R s m args below meth c T locs cells slots) (hx : p.tables.exec = Jvm.exec) (hZ : Z.Warmed39 s.vm) (hown : s.vm.findClass own = some m.cls) (hml : Ls.size = c.maxLocals) (eT : T.heap = h)
    (w1 : (Cond.methodLink own index y).before a0 Z = true) (w2 : (Cond.instanceMethod y).before a0 Z = true) (w3 : (Cond.initialized y.cls).before a0 Z = true) (w4 : (Cond.code y bytes maxL none).before a0 Z = true)
    (a : Addr) (argsL rest : List Value) {as' : Array Value} (has : (.ref a :: argsL).toArray = as') (hM : Con l y bytes maxL none rm Z as' h Q') (hd : decode c.code pc = .ok (.invokespecial index, 3)) (hst : st = argsL.reverse ++ .ref a :: rest)
    (hlen : ∀ sig, parseMethodDescriptor y.desc = some sig → argsL.length = sig.parameters.length) (hy1 : y.name = "<init>") (hy : y.cls ≠ "java/lang/invoke/MethodHandle" ∧ y.cls ≠ "java/lang/invoke/VarHandle")
    (hf : rm.frames + 1 ≤ R.frames) (hl : (rest.map fun v => v.category).sum + (maxL + 11) + rm.locals ≤ R.locals) (hc : cells + rm.cells ≤ R.cells) (hs : slots + rm.slots ≤ R.slots)
    (k : ∀ v T' h' L, Stand p l e R s m args below meth c T' (locs ++ L) (cells + rm.cells) (slots + rm.slots) → T'.heap = h' → Q' v h' L → Ends p e below s Q rc rs T' (mkF m (pc + 3) Ls (v.toList ++ rest))) :
    Ends p e below s Q rc rs T (mkF m pc Ls st) := by
  subst has
  obtain ⟨v, _, ⟨T', L', k', n'⟩, -, X', ⟨Lc, hQ, e1, e2, e3⟩, stp⟩ := X.specialBack hx (y := y) hy1 hown (mvT hZ w1) (mvT hZ w2) (mvT hZ w4) hy (backOf (W := (rest.map fun v => v.category).sum) (hM []) hZ w4 w3 hf hl) (g := mkF m pc Ls st) rfl hml (Steps.refl _) (a := a) (argsL := argsL) (rest := rest) hlen hst (by show 2 * 0 + _ ≤ _; omega) hd (fun _ _ => ⟨rfl, eT, hc, hs⟩)
  dsimp only [Pt.U, Pt.locs, Pt.cells, Pt.slots] at X' e1 e2 e3 stp hQ
  subst e1 e2 e3
  exact goS stp (k v T' _ Lc X' rfl hQ)
theorem cVirt {own K : String} {index : Nat} {y z : MethodName} {bytes : ByteArray} {maxL : Nat} {ret : Option FieldType} {rm : Room} {Q' : Option Value → Heap → List Loc → Prop} {pc : Nat} {Ls : Array Slot} {st : List Value}
    (X : Stand p l e R s m args below meth c T locs cells slots) (hx : p.tables.exec = Jvm.exec) (hZ : Z.Warmed39 s.vm) (hown : s.vm.findClass own = some m.cls) (hml : Ls.size = c.maxLocals) (eT : T.heap = h)
    (w1 : (Cond.methodLink own index y).before a0 Z = true) (w2 : (Cond.declares y).before a0 Z = true) (w3 : (Cond.selects K y z).before a0 Z = true) (w4 : (Cond.instanceMethod z).before a0 Z = true) (w5 : (Cond.initialized z.cls).before a0 Z = true) (w6 : (Cond.code z bytes maxL ret).before a0 Z = true) (hnf : NotFace s y)
    (a : Addr) (E : Exa Z h a K) (argsL rest : List Value) {as' : Array Value} (has : (.ref a :: argsL).toArray = as') (hM : Con l z bytes maxL ret rm Z as' h Q') (hd : decode c.code pc = .ok (.invokevirtual index, 3)) (hst : st = argsL.reverse ++ .ref a :: rest)
    (hlen : ∀ sig, parseMethodDescriptor y.desc = some sig → argsL.length = sig.parameters.length) (hy : y.cls ≠ "java/lang/invoke/MethodHandle" ∧ y.cls ≠ "java/lang/invoke/VarHandle")
    (hf : rm.frames + 1 ≤ R.frames) (hl : (rest.map fun v => v.category).sum + (maxL + 11) + rm.locals ≤ R.locals) (hc : cells + rm.cells ≤ R.cells) (hs : slots + rm.slots ≤ R.slots)
    (k : ∀ v T' h' L, Stand p l e R s m args below meth c T' (locs ++ L) (cells + rm.cells) (slots + rm.slots) → T'.heap = h' → Q' v h' L → Ends p e below s Q rc rs T' (mkF m (pc + 3) Ls (v.toList ++ rest))) :
    Ends p e below s Q rc rs T (mkF m pc Ls st) := by
  subst has
  obtain ⟨cq, kq, qa, qb, qc⟩ := isOf hZ eT E
  obtain ⟨v, _, ⟨T', L', k', n'⟩, -, X', ⟨Lc, hQ, e1, e2, e3⟩, stp⟩ := X.virtualBack hx (y := y) (z := z) hown (mvT hZ w1) (mvT hZ w2) hnf (mvT hZ w3) (mvT hZ w4) hy (backOf (W := (rest.map fun v => v.category).sum) (hM []) hZ w6 w5 hf hl) qa qc (g := mkF m pc Ls st) rfl hml (Steps.refl _) (argsL := argsL) (rest := rest) hlen hst (by show 2 * 0 + _ ≤ _; omega) hd (fun _ _ => ⟨rfl, eT, hc, hs⟩)
  dsimp only [Pt.U, Pt.locs, Pt.cells, Pt.slots] at X' e1 e2 e3 stp hQ
  subst e1 e2 e3
  exact goS stp (k v T' _ Lc X' rfl hQ)
theorem cFace {own K : String} {index count : Nat} {y z : MethodName} {bytes : ByteArray} {maxL : Nat} {ret : Option FieldType} {rm : Room} {Q' : Option Value → Heap → List Loc → Prop} {pc : Nat} {Ls : Array Slot} {st : List Value}
    (X : Stand p l e R s m args below meth c T locs cells slots) (hx : p.tables.exec = Jvm.exec) (hZ : Z.Warmed39 s.vm) (hown : s.vm.findClass own = some m.cls) (hml : Ls.size = c.maxLocals) (eT : T.heap = h)
    (w1 : (Cond.methodLink own index y).before a0 Z = true) (w2 : (Cond.declares y).before a0 Z = true) (wf : (Cond.interfaceMethod y.cls y.cls y.name y.desc).before args s = true) (w3 : (Cond.selects K y z).before a0 Z = true) (w4 : (Cond.instanceMethod z).before a0 Z = true) (wp : (Cond.publicMethod z).before a0 Z = true) (wu : (Cond.unhidden K y.name y.desc).before args s = true) (wc : (Cond.castable K y.cls).before a0 Z = true) (w5 : (Cond.initialized z.cls).before a0 Z = true) (w6 : (Cond.code z bytes maxL ret).before a0 Z = true)
    (a : Addr) (E : Exa Z h a K) (argsL rest : List Value) {as' : Array Value} (has : (.ref a :: argsL).toArray = as') (hM : Con l z bytes maxL ret rm Z as' h Q') (hd : decode c.code pc = .ok (.invokeinterface index count, 5)) (hst : st = argsL.reverse ++ .ref a :: rest)
    (hlen : ∀ sig, parseMethodDescriptor y.desc = some sig → argsL.length = sig.parameters.length) (hy : y.cls ≠ "java/lang/invoke/MethodHandle" ∧ y.cls ≠ "java/lang/invoke/VarHandle")
    (hf : rm.frames + 1 ≤ R.frames) (hl : (rest.map fun v => v.category).sum + (maxL + 11) + rm.locals ≤ R.locals) (hc : cells + rm.cells ≤ R.cells) (hs : slots + rm.slots ≤ R.slots)
    (k : ∀ v T' h' L, Stand p l e R s m args below meth c T' (locs ++ L) (cells + rm.cells) (slots + rm.slots) → T'.heap = h' → Q' v h' L → Ends p e below s Q rc rs T' (mkF m (pc + 5) Ls (v.toList ++ rest))) :
    Ends p e below s Q rc rs T (mkF m pc Ls st) := by
  subst has
  obtain ⟨cq, kq, qa, qb, qc⟩ := isOf hZ eT E
  obtain ⟨v, _, ⟨T', L', k', n'⟩, -, X', ⟨Lc, hQ, e1, e2, e3⟩, stp⟩ := X.interfaceBack hx (xi := y) (y := z) hown (mvT hZ w1) (mvT hZ w2) wf (mvT hZ w3) (mvT hZ w4) (mvT hZ wp) wu (mvT hZ wc) hy (backOf (W := (rest.map fun v => v.category).sum) (hM []) hZ w6 w5 hf hl) qa qb qc (g := mkF m pc Ls st) rfl hml (Steps.refl _) (argsL := argsL) (rest := rest) hlen hst (by show 2 * 0 + _ ≤ _; omega) hd (fun _ _ => ⟨rfl, eT, hc, hs⟩)
  dsimp only [Pt.U, Pt.locs, Pt.cells, Pt.slots] at X' e1 e2 e3 stp hQ
  subst e1 e2 e3
  exact goS stp (k v T' _ Lc X' rfl hQ)
theorem xx (O : Ext Z.heap h) (E : Ext h h') : Ext Z.heap h' := ⟨Nat.le_trans O.1 E.1, fun a c q => E.2 _ _ (O.2 _ _ q)⟩
theorem xk {ws : List Addr} (O : Ext Z.heap h) (K : Keep h h' ws) (q : ∀ x ∈ ws, Z.heap.size ≤ x) : Ext Z.heap h' := (Old.keep ⟨rfl, O⟩ K q).2
theorem xw {a : Addr} {sl : Nat} {v : Value} (O : Ext Z.heap h) (W : Wr h h' a sl v) (q : Z.heap.size ≤ a) : Ext Z.heap h' := (Old.wr ⟨rfl, O⟩ W q).2
theorem ke (E : Ext h h') : Keep h h' [] := (Keep.refl h []).ext E
theorem ek (K : Keep h h' []) : Ext h h' := ⟨K.1, fun a c q => K.2.1 a c q nin0⟩
end Own
theorem pn_0 : plainName "java/lang/Record" = true := by first | (simp [plainName, overriddenIn]; done) | decide +kernel
theorem d_jdk_30_method_1_0 : decode jdk_30_method_1_code 0 = .ok (.aload_n 0, 1) := by decide +kernel
theorem d_jdk_30_method_1_1 : decode jdk_30_method_1_code 1 = .ok (.invokespecial 1, 3) := by decide +kernel
theorem d_jdk_30_method_1_4 : decode jdk_30_method_1_code 4 = .ok (.return_, 1) := by decide +kernel
theorem pn_1 : plainName "com/example/libtbox/libtbox/core/Edge" = true := by first | (simp [plainName, overriddenIn]; done) | decide +kernel
theorem d_prog_25_method_1_0 : decode prog_25_method_1_code 0 = .ok (.aload_n 0, 1) := by decide +kernel
theorem d_prog_25_method_1_1 : decode prog_25_method_1_code 1 = .ok (.invokespecial 1, 3) := by decide +kernel
theorem pd_2 : parseMethodDescriptor "()V" = some ⟨[], none⟩ := by decide +kernel
theorem d_prog_25_method_1_4 : decode prog_25_method_1_code 4 = .ok (.aload_n 0, 1) := by decide +kernel
theorem d_prog_25_method_1_5 : decode prog_25_method_1_code 5 = .ok (.iload_n 1, 1) := by decide +kernel
theorem d_prog_25_method_1_6 : decode prog_25_method_1_code 6 = .ok (.putfield 7, 3) := by decide +kernel
theorem d_prog_25_method_1_9 : decode prog_25_method_1_code 9 = .ok (.aload_n 0, 1) := by decide +kernel
theorem d_prog_25_method_1_10 : decode prog_25_method_1_code 10 = .ok (.iload_n 2, 1) := by decide +kernel
theorem d_prog_25_method_1_11 : decode prog_25_method_1_code 11 = .ok (.putfield 13, 3) := by decide +kernel
theorem d_prog_25_method_1_14 : decode prog_25_method_1_code 14 = .ok (.return_, 1) := by decide +kernel
theorem pn_3 : plainName "java/lang/Number" = true := by first | (simp [plainName, overriddenIn]; done) | decide +kernel
theorem d_jdk_18_method_1_0 : decode jdk_18_method_1_code 0 = .ok (.aload_n 0, 1) := by decide +kernel
theorem d_jdk_18_method_1_1 : decode jdk_18_method_1_code 1 = .ok (.invokespecial 1, 3) := by decide +kernel
theorem d_jdk_18_method_1_4 : decode jdk_18_method_1_code 4 = .ok (.return_, 1) := by decide +kernel
theorem pn_4 : plainName "java/lang/Integer" = true := by first | (simp [plainName, overriddenIn]; done) | decide +kernel
theorem d_jdk_33_method_23_0 : decode jdk_33_method_23_code 0 = .ok (.aload_n 0, 1) := by decide +kernel
theorem d_jdk_33_method_23_1 : decode jdk_33_method_23_code 1 = .ok (.invokespecial 202, 3) := by decide +kernel
theorem d_jdk_33_method_23_4 : decode jdk_33_method_23_code 4 = .ok (.aload_n 0, 1) := by decide +kernel
theorem d_jdk_33_method_23_5 : decode jdk_33_method_23_code 5 = .ok (.iload_n 1, 1) := by decide +kernel
theorem d_jdk_33_method_23_6 : decode jdk_33_method_23_code 6 = .ok (.putfield 205, 3) := by decide +kernel
theorem d_jdk_33_method_23_9 : decode jdk_33_method_23_code 9 = .ok (.return_, 1) := by decide +kernel
theorem d_jdk_33_method_22_0 : decode jdk_33_method_22_code 0 = .ok (.iload_n 0, 1) := by decide +kernel
theorem d_jdk_33_method_22_1 : decode jdk_33_method_22_code 1 = .ok (.bipush (-128), 2) := by decide +kernel
theorem d_jdk_33_method_22_3 : decode jdk_33_method_22_code 3 = .ok (.if_icmp .lt 20, 3) := by decide +kernel
theorem d_jdk_33_method_22_23 : decode jdk_33_method_22_code 23 = .ok (.new 1, 3) := by decide +kernel
theorem d_jdk_33_method_22_26 : decode jdk_33_method_22_code 26 = .ok (.dup, 1) := by decide +kernel
theorem d_jdk_33_method_22_27 : decode jdk_33_method_22_code 27 = .ok (.iload_n 0, 1) := by decide +kernel
theorem d_jdk_33_method_22_28 : decode jdk_33_method_22_code 28 = .ok (.invokespecial 199, 3) := by decide +kernel
theorem pd_5 : parseMethodDescriptor "(I)V" = some ⟨[.int], none⟩ := by decide +kernel
theorem d_jdk_33_method_22_31 : decode jdk_33_method_22_code 31 = .ok (.areturn, 1) := by decide +kernel
theorem d_jdk_33_method_22_6 : decode jdk_33_method_22_code 6 = .ok (.iload_n 0, 1) := by decide +kernel
theorem d_jdk_33_method_22_7 : decode jdk_33_method_22_code 7 = .ok (.getstatic 191, 3) := by decide +kernel
theorem d_jdk_33_method_22_10 : decode jdk_33_method_22_code 10 = .ok (.if_icmp .gt 13, 3) := by decide +kernel
theorem d_jdk_33_method_22_13 : decode jdk_33_method_22_code 13 = .ok (.getstatic 195, 3) := by decide +kernel
theorem d_jdk_33_method_22_16 : decode jdk_33_method_22_code 16 = .ok (.iload_n 0, 1) := by decide +kernel
theorem d_jdk_33_method_22_17 : decode jdk_33_method_22_code 17 = .ok (.sipush 128, 3) := by decide +kernel
theorem d_jdk_33_method_22_20 : decode jdk_33_method_22_code 20 = .ok (.iadd, 1) := by decide +kernel
theorem d_jdk_33_method_22_21 : decode jdk_33_method_22_code 21 = .ok (.aaload, 1) := by decide +kernel
theorem d_jdk_33_method_22_22 : decode jdk_33_method_22_code 22 = .ok (.areturn, 1) := by decide +kernel
theorem d_prog_25_method_2_0 : decode prog_25_method_2_code 0 = .ok (.aload_n 1, 1) := by decide +kernel
theorem d_prog_25_method_2_1 : decode prog_25_method_2_code 1 = .ok (.instanceof 8, 3) := by decide +kernel
theorem d_prog_25_method_2_4 : decode prog_25_method_2_code 4 = .ok (.ifCond .eq 34, 3) := by decide +kernel
theorem d_prog_25_method_2_7 : decode prog_25_method_2_code 7 = .ok (.aload_n 1, 1) := by decide +kernel
theorem d_prog_25_method_2_8 : decode prog_25_method_2_code 8 = .ok (.checkcast 8, 3) := by decide +kernel
theorem d_prog_25_method_2_11 : decode prog_25_method_2_code 11 = .ok (.astore_n 2, 1) := by decide +kernel
theorem d_prog_25_method_2_12 : decode prog_25_method_2_code 12 = .ok (.aload_n 0, 1) := by decide +kernel
theorem d_prog_25_method_2_13 : decode prog_25_method_2_code 13 = .ok (.getfield 7, 3) := by decide +kernel
theorem d_prog_25_method_2_16 : decode prog_25_method_2_code 16 = .ok (.aload_n 2, 1) := by decide +kernel
theorem d_prog_25_method_2_17 : decode prog_25_method_2_code 17 = .ok (.getfield 7, 3) := by decide +kernel
theorem d_prog_25_method_2_20 : decode prog_25_method_2_code 20 = .ok (.if_icmp .ne 18, 3) := by decide +kernel
theorem d_prog_25_method_2_23 : decode prog_25_method_2_code 23 = .ok (.aload_n 0, 1) := by decide +kernel
theorem d_prog_25_method_2_24 : decode prog_25_method_2_code 24 = .ok (.getfield 13, 3) := by decide +kernel
theorem d_prog_25_method_2_27 : decode prog_25_method_2_code 27 = .ok (.aload_n 2, 1) := by decide +kernel
theorem d_prog_25_method_2_28 : decode prog_25_method_2_code 28 = .ok (.getfield 13, 3) := by decide +kernel
theorem d_prog_25_method_2_31 : decode prog_25_method_2_code 31 = .ok (.if_icmp .ne 7, 3) := by decide +kernel
theorem d_prog_25_method_2_34 : decode prog_25_method_2_code 34 = .ok (.iconst 1, 1) := by decide +kernel
theorem d_prog_25_method_2_35 : decode prog_25_method_2_code 35 = .ok (.goto 4, 3) := by decide +kernel
theorem d_prog_25_method_2_39 : decode prog_25_method_2_code 39 = .ok (.ireturn, 1) := by decide +kernel
theorem d_prog_25_method_2_38 : decode prog_25_method_2_code 38 = .ok (.iconst 0, 1) := by decide +kernel
theorem pn_6 : plainName "com/example/libtbox/libtbox/core/EdgeEqualsPinLaw" = true := by first | (simp [plainName, overriddenIn]; done) | decide +kernel
theorem pd_7 : parseMethodDescriptor "(II)V" = some ⟨[.int, .int], none⟩ := by decide +kernel
theorem pd_8 : parseMethodDescriptor "(Ljava/lang/Object;)Z" = some ⟨[(.object "java/lang/Object")], some .boolean⟩ := by decide +kernel
theorem pd_9 : parseMethodDescriptor "(I)Ljava/lang/Integer;" = some ⟨[.int], some (.object "java/lang/Integer")⟩ := by decide +kernel
theorem own_nsroot {Z : State} {a0 : Array Value} {O K : String} {n : Nat} (w : (Jvm.Cond.noSuperclass O).before a0 Z = true) (wk : (Jvm.Cond.instantiable K n).before a0 Z = true) (hn : O ≠ K) : NS Z O K := by
  obtain ⟨c, k, h1, h2, h3, -, -⟩ := Cond.noSuperclass_spec w
  obtain ⟨t, kt, g1, -⟩ := Cond.instantiable_spec wk
  have ne := ids_ne h1 g1 hn
  refine ⟨c, t, h1, g1, fun fuel => ?_⟩
  cases fuel with
  | zero => rfl
  | succ f => simp [Vm.isSubclassAux, ne, h2, h3]
theorem own_nsno {Z : State} {a0 : Array Value} {C S K : String} {n : Nat} (w : (Jvm.Cond.superclass C S).before a0 Z = true) (wk : (Jvm.Cond.instantiable K n).before a0 Z = true) (ns : NS Z C K) (hn : C ≠ K) : ∃ c t, Z.vm.findClass C = some c ∧ Z.vm.findClass K = some t ∧ Z.vm.assignable c t = false := by
  obtain ⟨c, t, h0, g0, n3⟩ := ns
  obtain ⟨p, k, kp, h1, h2, h3, h4, h5, -, h7⟩ := Cond.superclass_spec h0 w
  obtain ⟨t', kt, g1, g2, g3, g4, -⟩ := Cond.instantiable_spec wk
  cases g0.symm.trans g1
  have g5 : kt.isInterface = false := by
    cases hq : kt.isInterface with
    | false => rfl
    | true => rw [hq] at g4; simp at g4
  have ne := ids_ne h0 g0 hn
  refine ⟨c, t, h0, g0, ?_⟩
  show Z.vm.assignableAux (255 + 1) c t = false
  simp [Vm.assignableAux, ne, h2, g2, h5, g3, g5, Vm.isSubclass, n3]
theorem own_len {args : Array Value} {Z : State} {t : Term} {a : Addr} {cl : Cell} {ty : FieldType} {z : Int32} (ht : t.eval args Z none [] Z = some (.ref a)) (A : Arr Z Z.heap a cl ty) (e : (Term.length t).eval args Z none [] Z = some (.int z)) : cl.slots.size < 2 ^ 31 ∧ cl.slots.size.toInt32 = z := by
  have hA := A.fin (Vm.Alike.refl _)
  by_cases hn : cl.slots.size < 2 ^ 31
  · exact ⟨hn, Value.int.inj (Option.some.inj ((len_f ht hA hn).symm.trans e))⟩
  · exfalso
    simp [Term.eval, ht, hA, hn] at e
theorem own_idx {args : Array Value} {Z : State} {j : Int32} (hj : ¬ j < 0) : (Term.sub (.index 0) (.int 128)).eval args Z none [j.toNatClampNeg] Z = some (.int (j - 128)) := by
  have e := idx_at (args := args) (first := Z) (s := Z) (o := none) hj
  simp only [Term.eval] at e ⊢
  simp [e, (back32 hj).1]
set_option maxRecDepth 65536 in
set_option maxHeartbeats 40000000 in
theorem rm_record {l : Launch} {Z : State} {a0 : Array Value} (hw : ∀ d ∈ tables_1, d.before a0 Z = true) (a : Addr) (h0 : Heap)  :
    Con l (⟨"java/lang/Record", "<init>", "()V"⟩ : MethodName) jdk_30_method_1_code 1 none ({ frames := 1, cells := 0, slots := 0, locals := 12 } : Room) Z #[(.ref a)] h0 (fun v h L => v = none ∧ Fr Z.heap.size L ∧ h0 = h) := by
  refine Con.of (plainFor_of_name pn_0) (Ls := #[.val (.ref a)]) (fun m => by first | rfl | (simp [entryFrame, mkF, argsToLocals, Value.category]; done)) ?_
  intro p e s m below meth c T0 X0 hx hZ hby hml hown hnm hret hlk e0
  refine go (fun _ => XS.aloadN X0.here hx rfl (hb hby d_jdk_30_method_1_0) rfl rfl) ?_
  show Ends p e below s _ _ _ T0 (mkF m 1 #[.val (.ref a)] [(.ref a)])
  obtain ⟨T1, X1, e1, s1⟩ := initO X0 hx hZ hown (hw _ (List.mem_of_getElem? (i := 11) rfl)) (hw _ (List.mem_of_getElem? (i := 12) rfl)) (hw _ (List.mem_of_getElem? (i := 13) rfl)) e0 (g := (mkF m 1 #[.val (.ref a)] [(.ref a)])) rfl (by rw [hml]; rfl) rfl (hb hby d_jdk_30_method_1_1) (by decide) (W := 0) (by show 2 * 0 + _ ≤ _; exact Nat.le_of_eq rfl) (by decide)
  refine go s1 ?_
  show Ends p e below s _ _ _ T1 (mkF m 4 #[.val (.ref a)] [])
  exact endV X1 hx hlk hret (hb hby d_jdk_30_method_1_4) e1 ⟨rfl, (Fr.nil _), rfl⟩ (by decide) (by decide)
set_option maxRecDepth 65536 in
set_option maxHeartbeats 40000000 in
theorem rm_edge {l : Launch} {Z : State} {a0 : Array Value} (hw : ∀ d ∈ tables_1, d.before a0 Z = true) (a : Addr) (x y : Int32) (h0 : Heap) (O0 : Ext Z.heap h0) (f0 : Z.heap.size ≤ a) (E0 : Exa Z h0 a "com/example/libtbox/libtbox/core/Edge") (F_role : Fld Z h0 a "com/example/libtbox/libtbox/core/Edge" "role" "I" (.int (0 : Int32))) (F_node : Fld Z h0 a "com/example/libtbox/libtbox/core/Edge" "node" "I" (.int (0 : Int32)))   :
    Con l (⟨"com/example/libtbox/libtbox/core/Edge", "<init>", "(II)V"⟩ : MethodName) prog_25_method_1_code 3 none ({ frames := 2, cells := 0, slots := 0, locals := 24 } : Room) Z #[(.ref a), (.int x), (.int y)] h0 (fun v h L => v = none ∧ Fr Z.heap.size L ∧ Keep h0 h [a] ∧ Fld Z h a "com/example/libtbox/libtbox/core/Edge" "role" "I" (.int x) ∧ Fld Z h a "com/example/libtbox/libtbox/core/Edge" "node" "I" (.int y)) := by
  refine Con.of (plainFor_of_name pn_1) (Ls := #[.val (.ref a), .val (.int x), .val (.int y)]) (fun m => by first | rfl | (simp [entryFrame, mkF, argsToLocals, Value.category]; done)) ?_
  intro p e s m below meth c T0 X0 hx hZ hby hml hown hnm hret hlk e0
  refine go (fun _ => XS.aloadN X0.here hx rfl (hb hby d_prog_25_method_1_0) rfl rfl) ?_
  show Ends p e below s _ _ _ T0 (mkF m 1 #[.val (.ref a), .val (.int x), .val (.int y)] [(.ref a)])
  refine cInit X0 hx hZ hown (by rw [hml]; rfl) e0 (hw _ (List.mem_of_getElem? (i := 6) rfl)) (hw _ (List.mem_of_getElem? (i := 7) rfl)) (hw _ (List.mem_of_getElem? (i := 9) rfl)) (hw _ (List.mem_of_getElem? (i := 10) rfl)) a [] [] rfl (rm_record hw a _) (hb hby d_prog_25_method_1_1) rfl (lenOf pd_2 rfl) rfl (by decide) (by decide) (Nat.le_of_ble_eq_true rfl) (by decide) (by decide) ?_
  rintro v2 T2 h2 L2 X2 e2 ⟨rfl, N2, rfl⟩
  have N2a := Fr.app (Fr.nil _) N2
  show Ends p e below s _ _ _ T2 (mkF m 4 #[.val (.ref a), .val (.int x), .val (.int y)] [])
  refine go (fun _ => XS.aloadN X2.here hx rfl (hb hby d_prog_25_method_1_4) rfl rfl) ?_
  show Ends p e below s _ _ _ T2 (mkF m 5 #[.val (.ref a), .val (.int x), .val (.int y)] [(.ref a)])
  refine go (fun _ => XS.iloadN X2.here hx rfl (hb hby d_prog_25_method_1_5) rfl) ?_
  show Ends p e below s _ _ _ T2 (mkF m 6 #[.val (.ref a), .val (.int x), .val (.int y)] [(.int x), (.ref a)])
  obtain ⟨T3, h3, X3, e3, W3, s3⟩ := putF X2 hx hZ hown (host := "") (Or.inl (hw _ (List.mem_of_getElem? (i := 14) rfl))) Via.refl e2 F_role E0 (Or.inr ⟨(hw _ (List.mem_of_getElem? (i := 15) rfl)), rfl, hnm⟩) (hw _ (List.mem_of_getElem? (i := 1) rfl)) (ty := .int) (by decide) rfl rfl (g := (mkF m 6 #[.val (.ref a), .val (.int x), .val (.int y)] [(.int x), (.ref a)])) rfl rfl (hb hby d_prog_25_method_1_6)
  have N3 := Fr.snoc X3 N2a f0
  have O4 : Ext Z.heap h3 := xw O0 W3 f0
  refine go s3 ?_
  show Ends p e below s _ _ _ T3 (mkF m 9 #[.val (.ref a), .val (.int x), .val (.int y)] [])
  refine go (fun _ => XS.aloadN X3.here hx rfl (hb hby d_prog_25_method_1_9) rfl rfl) ?_
  show Ends p e below s _ _ _ T3 (mkF m 10 #[.val (.ref a), .val (.int x), .val (.int y)] [(.ref a)])
  refine go (fun _ => XS.iloadN X3.here hx rfl (hb hby d_prog_25_method_1_10) rfl) ?_
  show Ends p e below s _ _ _ T3 (mkF m 11 #[.val (.ref a), .val (.int x), .val (.int y)] [(.int y), (.ref a)])
  have F5 := (Exa.wr W3 E0)
  have F6 := (Fld.other W3 F_node (Or.inr (slot_ne (a0 := a0) (Or.inr (hw _ (List.mem_of_getElem? (i := 17) rfl))) (Or.inr (hw _ (List.mem_of_getElem? (i := 15) rfl))) (by decide) (t := .int) (t' := .int) (by decide) (by decide))))
  obtain ⟨T7, h7, X7, e7, W7, s7⟩ := putF X3 hx hZ hown (host := "") (Or.inl (hw _ (List.mem_of_getElem? (i := 16) rfl))) Via.refl e3 F6 F5 (Or.inr ⟨(hw _ (List.mem_of_getElem? (i := 17) rfl)), rfl, hnm⟩) (hw _ (List.mem_of_getElem? (i := 1) rfl)) (ty := .int) (by decide) rfl rfl (g := (mkF m 11 #[.val (.ref a), .val (.int x), .val (.int y)] [(.int y), (.ref a)])) rfl rfl (hb hby d_prog_25_method_1_11)
  have N7 := Fr.snoc X7 N3 f0
  have O8 : Ext Z.heap h7 := xw O4 W7 f0
  refine go s7 ?_
  show Ends p e below s _ _ _ T7 (mkF m 14 #[.val (.ref a), .val (.int x), .val (.int y)] [])
  have K9 : Keep h0 h7 [a] := (Keep.wr (Keep.wr (Keep.refl _ _) W3 (Or.inl (List.mem_of_getElem? (i := 0) rfl))) W7 (Or.inl (List.mem_of_getElem? (i := 0) rfl)))
  have F10 := (Fld.other W7 (Fld.same W3 F_role) (Or.inr (slot_ne (a0 := a0) (Or.inr (hw _ (List.mem_of_getElem? (i := 15) rfl))) (Or.inr (hw _ (List.mem_of_getElem? (i := 17) rfl))) (by decide) (t := .int) (t' := .int) (by decide) (by decide))))
  have F11 := (Fld.same W7 F6)
  exact endV X7 hx hlk hret (hb hby d_prog_25_method_1_14) e7 ⟨rfl, N7, K9, F10, F11⟩ (by decide) (by decide)
theorem own_box {x : Int32} (h1 : ¬ x < (-128 : Int32)) (h2 : ¬ (127 : Int32) < x) : ¬ (x + 128) < 0 ∧ (x + 128) < (256 : Int32) := by
  have e1 : (-128 : Int32).toInt = -128 := by decide
  have e2 : (127 : Int32).toInt = 127 := by decide
  have e3 : (128 : Int32).toInt = 128 := by decide
  have e4 : (256 : Int32).toInt = 256 := by decide
  have e5 : (0 : Int32).toInt = 0 := by decide
  have q := c_iadd x 128
  have r := rng32 (x + 128)
  simp only [Int32.lt_iff_toInt_lt, e1, e2, e3, e4, e5] at *
  omega
theorem own_boxv (x : Int32) : x + 128 - 128 = x := by
  apply Int32.toInt_inj.mp
  have q := c_iadd x 128
  have r := c_isub (x + 128) 128
  have e3 : (128 : Int32).toInt = 128 := by decide
  have r1 := rng32 (x + 128 - 128)
  have r2 := rng32 x
  rw [e3] at q r
  omega
set_option maxRecDepth 65536 in
set_option maxHeartbeats 40000000 in
theorem rm_number {l : Launch} {Z : State} {a0 : Array Value} (hw : ∀ d ∈ tables_1, d.before a0 Z = true) (a : Addr) (h0 : Heap)  :
    Con l (⟨"java/lang/Number", "<init>", "()V"⟩ : MethodName) jdk_18_method_1_code 1 none ({ frames := 1, cells := 0, slots := 0, locals := 12 } : Room) Z #[(.ref a)] h0 (fun v h L => v = none ∧ Fr Z.heap.size L ∧ h0 = h) := by
  refine Con.of (plainFor_of_name pn_3) (Ls := #[.val (.ref a)]) (fun m => by first | rfl | (simp [entryFrame, mkF, argsToLocals, Value.category]; done)) ?_
  intro p e s m below meth c T0 X0 hx hZ hby hml hown hnm hret hlk e0
  refine go (fun _ => XS.aloadN X0.here hx rfl (hb hby d_jdk_18_method_1_0) rfl rfl) ?_
  show Ends p e below s _ _ _ T0 (mkF m 1 #[.val (.ref a)] [(.ref a)])
  obtain ⟨T12, X12, e12, s12⟩ := initO X0 hx hZ hown (hw _ (List.mem_of_getElem? (i := 47) rfl)) (hw _ (List.mem_of_getElem? (i := 12) rfl)) (hw _ (List.mem_of_getElem? (i := 13) rfl)) e0 (g := (mkF m 1 #[.val (.ref a)] [(.ref a)])) rfl (by rw [hml]; rfl) rfl (hb hby d_jdk_18_method_1_1) (by decide) (W := 0) (by show 2 * 0 + _ ≤ _; exact Nat.le_of_eq rfl) (by decide)
  refine go s12 ?_
  show Ends p e below s _ _ _ T12 (mkF m 4 #[.val (.ref a)] [])
  exact endV X12 hx hlk hret (hb hby d_jdk_18_method_1_4) e12 ⟨rfl, (Fr.nil _), rfl⟩ (by decide) (by decide)
set_option maxRecDepth 65536 in
set_option maxHeartbeats 40000000 in
theorem rm_integer {l : Launch} {Z : State} {a0 : Array Value} (hw : ∀ d ∈ tables_1, d.before a0 Z = true) (a : Addr) (x : Int32) (h0 : Heap) (O0 : Ext Z.heap h0) (f0 : Z.heap.size ≤ a) (E0 : Exa Z h0 a "java/lang/Integer") (F_value : Fld Z h0 a "java/lang/Integer" "value" "I" (.int (0 : Int32)))   :
    Con l (⟨"java/lang/Integer", "<init>", "(I)V"⟩ : MethodName) jdk_33_method_23_code 2 none ({ frames := 2, cells := 0, slots := 0, locals := 24 } : Room) Z #[(.ref a), (.int x)] h0 (fun v h L => v = none ∧ Fr Z.heap.size L ∧ Keep h0 h [a] ∧ Fld Z h a "java/lang/Integer" "value" "I" (.int x)) := by
  refine Con.of (plainFor_of_name pn_4) (Ls := #[.val (.ref a), .val (.int x)]) (fun m => by first | rfl | (simp [entryFrame, mkF, argsToLocals, Value.category]; done)) ?_
  intro p e s m below meth c T0 X0 hx hZ hby hml hown hnm hret hlk e0
  refine go (fun _ => XS.aloadN X0.here hx rfl (hb hby d_jdk_33_method_23_0) rfl rfl) ?_
  show Ends p e below s _ _ _ T0 (mkF m 1 #[.val (.ref a), .val (.int x)] [(.ref a)])
  refine cInit X0 hx hZ hown (by rw [hml]; rfl) e0 (hw _ (List.mem_of_getElem? (i := 41) rfl)) (hw _ (List.mem_of_getElem? (i := 42) rfl)) (hw _ (List.mem_of_getElem? (i := 45) rfl)) (hw _ (List.mem_of_getElem? (i := 46) rfl)) a [] [] rfl (rm_number hw a _) (hb hby d_jdk_33_method_23_1) rfl (lenOf pd_2 rfl) rfl (by decide) (by decide) (Nat.le_of_ble_eq_true rfl) (by decide) (by decide) ?_
  rintro v13 T13 h13 L13 X13 e13 ⟨rfl, N13, rfl⟩
  have N13a := Fr.app (Fr.nil _) N13
  show Ends p e below s _ _ _ T13 (mkF m 4 #[.val (.ref a), .val (.int x)] [])
  refine go (fun _ => XS.aloadN X13.here hx rfl (hb hby d_jdk_33_method_23_4) rfl rfl) ?_
  show Ends p e below s _ _ _ T13 (mkF m 5 #[.val (.ref a), .val (.int x)] [(.ref a)])
  refine go (fun _ => XS.iloadN X13.here hx rfl (hb hby d_jdk_33_method_23_5) rfl) ?_
  show Ends p e below s _ _ _ T13 (mkF m 6 #[.val (.ref a), .val (.int x)] [(.int x), (.ref a)])
  obtain ⟨T14, h14, X14, e14, W14, s14⟩ := putF X13 hx hZ hown (host := "") (Or.inl (hw _ (List.mem_of_getElem? (i := 48) rfl))) Via.refl e13 F_value E0 (Or.inr ⟨(hw _ (List.mem_of_getElem? (i := 49) rfl)), rfl, hnm⟩) (hw _ (List.mem_of_getElem? (i := 36) rfl)) (ty := .int) (by decide) rfl rfl (g := (mkF m 6 #[.val (.ref a), .val (.int x)] [(.int x), (.ref a)])) rfl rfl (hb hby d_jdk_33_method_23_6)
  have N14 := Fr.snoc X14 N13a f0
  have O15 : Ext Z.heap h14 := xw O0 W14 f0
  refine go s14 ?_
  show Ends p e below s _ _ _ T14 (mkF m 9 #[.val (.ref a), .val (.int x)] [])
  have K16 : Keep h0 h14 [a] := (Keep.wr (Keep.refl _ _) W14 (Or.inl (List.mem_of_getElem? (i := 0) rfl)))
  have F17 := (Fld.same W14 F_value)
  exact endV X14 hx hlk hret (hb hby d_jdk_33_method_23_9) e14 ⟨rfl, N14, K16, F17⟩ (by decide) (by decide)
set_option maxRecDepth 65536 in
set_option maxHeartbeats 40000000 in
theorem rm_ivalueOf {l : Launch} {Z : State} {a0 : Array Value} (hw : ∀ d ∈ tables_1, d.before a0 Z = true) (x : Int32) (aB : Addr) (cB : Cell) (h0 : Heap) (O0 : Ext Z.heap h0) (SH : Sta Z Z.heap "java/lang/Integer$IntegerCache" "high" "I" (.int 127)) (SB : Sta Z Z.heap "java/lang/Integer$IntegerCache" "cache" "[Ljava/lang/Integer;" (.ref aB)) (BX : Bxs Z aB cB "java/lang/Integer" "I" (256 : Int32) (fun j => .int (j - 128))) :
    Con l (⟨"java/lang/Integer", "valueOf", "(I)Ljava/lang/Integer;"⟩ : MethodName) jdk_33_method_22_code 1 (some (.object "java/lang/Integer")) ({ frames := 3, cells := 1, slots := 1, locals := 38 } : Room) Z #[(.int x)] h0 (fun v h L => ∃ b, v = some (.ref b) ∧ Fr Z.heap.size L ∧ Keep h0 h [] ∧ Exa Z h b "java/lang/Integer" ∧ Fld Z h b "java/lang/Integer" "value" "I" (.int x)) := by
  refine Con.of (plainFor_of_name pn_4) (Ls := #[.val (.int x)]) (fun m => by first | rfl | (simp [entryFrame, mkF, argsToLocals, Value.category]; done)) ?_
  intro p e s m below meth c T0 X0 hx hZ hby hml hown hnm hret hlk e0
  refine go (fun _ => XS.iloadN X0.here hx rfl (hb hby d_jdk_33_method_22_0) rfl) ?_
  show Ends p e below s _ _ _ T0 (mkF m 1 #[.val (.int x)] [(.int x)])
  refine go (fun _ => XT.bipushV X0.here hx rfl (-128 : Int32) (hb hby d_jdk_33_method_22_1) (by decide)) ?_
  show Ends p e below s _ _ _ T0 (mkF m 3 #[.val (.int x)] [(.int (-128 : Int32)), (.int x)])
  by_cases c3_18 : x < (-128 : Int32)
  · refine go (fun _ => XS.icmpYes X0.here hx rfl (pc0 := 3) (pc' := 23) rfl (hb hby d_jdk_33_method_22_3) rfl (XT.ii_lt_t c3_18) (by decide) (by decide)) ?_
    show Ends p e below s _ _ _ T0 (mkF m 23 #[.val (.int x)] [])
    obtain ⟨T19, h19, X19, e19, E19, A19, D19, U19, s19⟩ := newO X0 hx hZ hown (hw _ (List.mem_of_getElem? (i := 35) rfl)) (hw _ (List.mem_of_getElem? (i := 36) rfl)) (hw _ (List.mem_of_getElem? (i := 27) rfl)) e0 (g := (mkF m 23 #[.val (.int x)] [])) rfl (hb hby d_jdk_33_method_22_23) (by decide) (by decide)
    obtain ⟨a19, g19⟩ : ∃ z : Addr, z = h0.size := ⟨_, rfl⟩
    have f19 : Z.heap.size ≤ a19 := by rw [g19]; exact (O0).1
    have K20 : Keep h0 h0 [] := (Keep.refl _ _)
    have b19 : h0.size ≤ a19 := by rw [g19]; exact (K20).1
    rw [← g19] at A19 D19 U19 s19
    have O21 : Ext Z.heap h19 := xx O0 E19
    refine go s19 ?_
    show Ends p e below s _ _ _ T19 (mkF m 26 #[.val (.int x)] [(.ref a19)])
    refine go (fun _ => XS.dup X19.here hx rfl (hb hby d_jdk_33_method_22_26) rfl rfl) ?_
    show Ends p e below s _ _ _ T19 (mkF m 27 #[.val (.int x)] [(.ref a19), (.ref a19)])
    refine go (fun _ => XS.iloadN X19.here hx rfl (hb hby d_jdk_33_method_22_27) rfl) ?_
    show Ends p e below s _ _ _ T19 (mkF m 28 #[.val (.int x)] [(.int x), (.ref a19), (.ref a19)])
    have F22 := (D19 (Or.inr (hw _ (List.mem_of_getElem? (i := 49) rfl))) (ty := .int) (by decide))
    refine cInit X19 hx hZ hown (by rw [hml]; rfl) e19 (hw _ (List.mem_of_getElem? (i := 37) rfl)) (hw _ (List.mem_of_getElem? (i := 38) rfl)) (hw _ (List.mem_of_getElem? (i := 27) rfl)) (hw _ (List.mem_of_getElem? (i := 40) rfl)) a19 [(.int x)] [(.ref a19)] rfl (rm_integer hw a19 x _ O21 f19 A19 F22  ) (hb hby d_jdk_33_method_22_28) rfl (lenOf pd_5 rfl) rfl (by decide) (by decide) (Nat.le_of_ble_eq_true rfl) (by decide) (by decide) ?_
    rintro v23 T23 h23 L23 X23 e23 ⟨rfl, N23, K23, F23_0⟩
    have N23a := Fr.app (Fr.nil _) N23
    have O24 : Ext Z.heap h23 := xk O21 K23 (allS f19 all0)
    show Ends p e below s _ _ _ T23 (mkF m 31 #[.val (.int x)] [(.ref a19)])
    have K25 : Keep h0 h23 [] := (Keep.trans (Keep.ext K20 E19) K23 (allS (Or.inr b19) all0))
    have F26 := (Exa.keep A19 K23)
    exact endA X23 hx hlk hret rfl rfl (hb hby d_jdk_33_method_22_31) e23 ⟨a19, rfl, N23a, K25, F26, F23_0⟩ (by decide) (by decide)
  · refine go (fun _ => XS.icmpNo X0.here hx rfl (hb hby d_jdk_33_method_22_3) rfl (XT.ii_lt_f c3_18)) ?_
    show Ends p e below s _ _ _ T0 (mkF m 6 #[.val (.int x)] [])
    refine go (fun _ => XS.iloadN X0.here hx rfl (hb hby d_jdk_33_method_22_6) rfl) ?_
    show Ends p e below s _ _ _ T0 (mkF m 7 #[.val (.int x)] [(.int x)])
    obtain ⟨T27, X27, e27, s27⟩ := getS2 X0 hx hZ hown (host := "") (Or.inl (hw _ (List.mem_of_getElem? (i := 29) rfl))) Via.refl e0 (Sta.ext O0 SH) (g := (mkF m 7 #[.val (.int x)] [(.int x)])) rfl (hb hby d_jdk_33_method_22_7)
    refine go s27 ?_
    show Ends p e below s _ _ _ T27 (mkF m 10 #[.val (.int x)] [(.int (127 : Int32)), (.int x)])
    by_cases c10_28 : (127 : Int32) < x
    · refine go (fun _ => XS.icmpYes X27.here hx rfl (pc0 := 10) (pc' := 23) rfl (hb hby d_jdk_33_method_22_10) rfl (XT.ii_gt_t c10_28) (by decide) (by decide)) ?_
      show Ends p e below s _ _ _ T27 (mkF m 23 #[.val (.int x)] [])
      obtain ⟨T29, h29, X29, e29, E29, A29, D29, U29, s29⟩ := newO X27 hx hZ hown (hw _ (List.mem_of_getElem? (i := 35) rfl)) (hw _ (List.mem_of_getElem? (i := 36) rfl)) (hw _ (List.mem_of_getElem? (i := 27) rfl)) e27 (g := (mkF m 23 #[.val (.int x)] [])) rfl (hb hby d_jdk_33_method_22_23) (by decide) (by decide)
      obtain ⟨a29, g29⟩ : ∃ z : Addr, z = h0.size := ⟨_, rfl⟩
      have f29 : Z.heap.size ≤ a29 := by rw [g29]; exact (O0).1
      have K30 : Keep h0 h0 [] := (Keep.refl _ _)
      have b29 : h0.size ≤ a29 := by rw [g29]; exact (K30).1
      rw [← g29] at A29 D29 U29 s29
      have O31 : Ext Z.heap h29 := xx O0 E29
      refine go s29 ?_
      show Ends p e below s _ _ _ T29 (mkF m 26 #[.val (.int x)] [(.ref a29)])
      refine go (fun _ => XS.dup X29.here hx rfl (hb hby d_jdk_33_method_22_26) rfl rfl) ?_
      show Ends p e below s _ _ _ T29 (mkF m 27 #[.val (.int x)] [(.ref a29), (.ref a29)])
      refine go (fun _ => XS.iloadN X29.here hx rfl (hb hby d_jdk_33_method_22_27) rfl) ?_
      show Ends p e below s _ _ _ T29 (mkF m 28 #[.val (.int x)] [(.int x), (.ref a29), (.ref a29)])
      have F32 := (D29 (Or.inr (hw _ (List.mem_of_getElem? (i := 49) rfl))) (ty := .int) (by decide))
      refine cInit X29 hx hZ hown (by rw [hml]; rfl) e29 (hw _ (List.mem_of_getElem? (i := 37) rfl)) (hw _ (List.mem_of_getElem? (i := 38) rfl)) (hw _ (List.mem_of_getElem? (i := 27) rfl)) (hw _ (List.mem_of_getElem? (i := 40) rfl)) a29 [(.int x)] [(.ref a29)] rfl (rm_integer hw a29 x _ O31 f29 A29 F32  ) (hb hby d_jdk_33_method_22_28) rfl (lenOf pd_5 rfl) rfl (by decide) (by decide) (Nat.le_of_ble_eq_true rfl) (by decide) (by decide) ?_
      rintro v33 T33 h33 L33 X33 e33 ⟨rfl, N33, K33, F33_0⟩
      have N33a := Fr.app (Fr.nil _) N33
      have O34 : Ext Z.heap h33 := xk O31 K33 (allS f29 all0)
      show Ends p e below s _ _ _ T33 (mkF m 31 #[.val (.int x)] [(.ref a29)])
      have K35 : Keep h0 h33 [] := (Keep.trans (Keep.ext K30 E29) K33 (allS (Or.inr b29) all0))
      have F36 := (Exa.keep A29 K33)
      exact endA X33 hx hlk hret rfl rfl (hb hby d_jdk_33_method_22_31) e33 ⟨a29, rfl, N33a, K35, F36, F33_0⟩ (by decide) (by decide)
    · refine go (fun _ => XS.icmpNo X27.here hx rfl (hb hby d_jdk_33_method_22_10) rfl (XT.ii_gt_f c10_28)) ?_
      show Ends p e below s _ _ _ T27 (mkF m 13 #[.val (.int x)] [])
      obtain ⟨T37, X37, e37, s37⟩ := getS2 X27 hx hZ hown (host := "") (Or.inl (hw _ (List.mem_of_getElem? (i := 31) rfl))) Via.refl e27 (Sta.ext O0 SB) (g := (mkF m 13 #[.val (.int x)] [])) rfl (hb hby d_jdk_33_method_22_13)
      refine go s37 ?_
      show Ends p e below s _ _ _ T37 (mkF m 16 #[.val (.int x)] [(.ref aB)])
      refine go (fun _ => XS.iloadN X37.here hx rfl (hb hby d_jdk_33_method_22_16) rfl) ?_
      show Ends p e below s _ _ _ T37 (mkF m 17 #[.val (.int x)] [(.int x), (.ref aB)])
      refine go (fun _ => XT.sipushV X37.here hx rfl (128 : Int32) (hb hby d_jdk_33_method_22_17) (by decide)) ?_
      show Ends p e below s _ _ _ T37 (mkF m 20 #[.val (.int x)] [(.int (128 : Int32)), (.int x), (.ref aB)])
      refine go (fun _ => XS.iadd X37.here hx rfl (hb hby d_jdk_33_method_22_20) rfl) ?_
      show Ends p e below s _ _ _ T37 (mkF m 21 #[.val (.int x)] [(.int (x + (128 : Int32))), (.ref aB)])
      have q38 := own_box c3_18 c10_28
      have i38 := inb_of BX.2.1 q38
      obtain ⟨b38, b138, b238, b338⟩ := BX.2.2.2 _ i38
      have A38 := (BX.ext O0).1
      refine go (fun _ => X37.aaload hx (j := (x + (128 : Int32))) (v := .ref b38) (by rw [e37]; exact A38.1) (State.isArrayOf_alike hZ.alike A38.2.1) rfl A38.2.2 i38 b138 (g := (mkF m 21 #[.val (.int x)] [(.int (x + (128 : Int32))), (.ref aB)])) rfl rfl (hb hby d_jdk_33_method_22_21) _) ?_
      show Ends p e below s _ _ _ T37 (mkF m 22 #[.val (.int x)] [(.ref b38)])
      simp only [own_boxv] at b338
      have K39 : Keep h0 h0 [] := (Keep.refl _ _)
      have F40 := (Exa.ext O0 b238)
      have F41 := (Fld.ext O0 b338)
      exact endA X37 hx hlk hret rfl rfl (hb hby d_jdk_33_method_22_22) e37 ⟨b38, rfl, (Fr.nil _), K39, F40, F41⟩ (by decide) (by decide)
def own_eq (x y x' y' : Int32) : Int32 := if x = x' then (if y = y' then 1 else 0) else 0
theorem own_eqs (x y : Int32) : own_eq x y x y = 1 := by simp [own_eq]
theorem own_eqc (x y x' y' : Int32) : own_eq x y x' y' = own_eq x' y' x y := by
  unfold own_eq
  simp only [eq_comm (a := x), eq_comm (a := y)]
set_option maxRecDepth 65536 in
set_option maxHeartbeats 40000000 in
theorem rm_eqE {l : Launch} {Z : State} {a0 : Array Value} (hw : ∀ d ∈ tables_1, d.before a0 Z = true) (a b : Addr) (x y x' y' : Int32) (h0 : Heap) (Eb : Exa Z h0 b "com/example/libtbox/libtbox/core/Edge") (Fa_role : Fld Z h0 a "com/example/libtbox/libtbox/core/Edge" "role" "I" (.int x)) (Fa_node : Fld Z h0 a "com/example/libtbox/libtbox/core/Edge" "node" "I" (.int y)) (Fb_role : Fld Z h0 b "com/example/libtbox/libtbox/core/Edge" "role" "I" (.int x')) (Fb_node : Fld Z h0 b "com/example/libtbox/libtbox/core/Edge" "node" "I" (.int y')) :
    Con l (⟨"com/example/libtbox/libtbox/core/Edge", "equals", "(Ljava/lang/Object;)Z"⟩ : MethodName) prog_25_method_2_code 3 (some .boolean) ({ frames := 0, cells := 0, slots := 0, locals := 0 } : Room) Z #[(.ref a), (.ref b)] h0 (fun v h L => v = some (.int (own_eq x y x' y')) ∧ Fr Z.heap.size L ∧ h0 = h) := by
  refine Con.of (plainFor_of_name pn_1) (Ls := #[.val (.ref a), .val (.ref b), .unset]) (fun m => by first | rfl | (simp [entryFrame, mkF, argsToLocals, Value.category]; done)) ?_
  intro p e s m below meth c T0 X0 hx hZ hby hml hown hnm hret hlk e0
  refine go (fun _ => XS.aloadN X0.here hx rfl (hb hby d_prog_25_method_2_0) rfl rfl) ?_
  show Ends p e below s _ _ _ T0 (mkF m 1 #[.val (.ref a), .val (.ref b), .unset] [(.ref b)])
  obtain ⟨T42, X42, e42, s42⟩ := instY X0 hx hZ hown (hw _ (List.mem_of_getElem? (i := 23) rfl)) e0 (Ins.self Eb) (g := (mkF m 1 #[.val (.ref a), .val (.ref b), .unset] [(.ref b)])) rfl rfl (hb hby d_prog_25_method_2_1)
  refine go s42 ?_
  show Ends p e below s _ _ _ T42 (mkF m 4 #[.val (.ref a), .val (.ref b), .unset] [(.int (1 : Int32))])
  refine go (fun _ => XS.ifNo X42.here hx rfl (hb hby d_prog_25_method_2_4) rfl (XT.i0_eq_f ((by decide) : ¬ ((1 : Int32) = (0 : Int32))))) ?_
  show Ends p e below s _ _ _ T42 (mkF m 7 #[.val (.ref a), .val (.ref b), .unset] [])
  refine go (fun _ => XS.aloadN X42.here hx rfl (hb hby d_prog_25_method_2_7) rfl rfl) ?_
  show Ends p e below s _ _ _ T42 (mkF m 8 #[.val (.ref a), .val (.ref b), .unset] [(.ref b)])
  obtain ⟨T43, X43, e43, s43⟩ := castY X42 hx hZ hown (hw _ (List.mem_of_getElem? (i := 23) rfl)) e42 (Ins.self Eb) (g := (mkF m 8 #[.val (.ref a), .val (.ref b), .unset] [(.ref b)])) rfl rfl (hb hby d_prog_25_method_2_8)
  refine go s43 ?_
  show Ends p e below s _ _ _ T43 (mkF m 11 #[.val (.ref a), .val (.ref b), .unset] [(.ref b)])
  refine go (fun _ => XS.astoreN X43.here hx rfl (hb hby d_prog_25_method_2_11) rfl rfl (l' := #[.val (.ref a), .val (.ref b), .val (.ref b)]) rfl) ?_
  show Ends p e below s _ _ _ T43 (mkF m 12 #[.val (.ref a), .val (.ref b), .val (.ref b)] [])
  refine go (fun _ => XS.aloadN X43.here hx rfl (hb hby d_prog_25_method_2_12) rfl rfl) ?_
  show Ends p e below s _ _ _ T43 (mkF m 13 #[.val (.ref a), .val (.ref b), .val (.ref b)] [(.ref a)])
  obtain ⟨T44, X44, e44, s44⟩ := getF X43 hx hZ hown (host := "") (Or.inl (hw _ (List.mem_of_getElem? (i := 14) rfl))) Via.refl e43 Fa_role (g := (mkF m 13 #[.val (.ref a), .val (.ref b), .val (.ref b)] [(.ref a)])) rfl rfl (hb hby d_prog_25_method_2_13)
  refine go s44 ?_
  show Ends p e below s _ _ _ T44 (mkF m 16 #[.val (.ref a), .val (.ref b), .val (.ref b)] [(.int x)])
  refine go (fun _ => XS.aloadN X44.here hx rfl (hb hby d_prog_25_method_2_16) rfl rfl) ?_
  show Ends p e below s _ _ _ T44 (mkF m 17 #[.val (.ref a), .val (.ref b), .val (.ref b)] [(.ref b), (.int x)])
  obtain ⟨T45, X45, e45, s45⟩ := getF X44 hx hZ hown (host := "") (Or.inl (hw _ (List.mem_of_getElem? (i := 14) rfl))) Via.refl e44 Fb_role (g := (mkF m 17 #[.val (.ref a), .val (.ref b), .val (.ref b)] [(.ref b), (.int x)])) rfl rfl (hb hby d_prog_25_method_2_17)
  refine go s45 ?_
  show Ends p e below s _ _ _ T45 (mkF m 20 #[.val (.ref a), .val (.ref b), .val (.ref b)] [(.int x'), (.int x)])
  by_cases c20_46 : x = x'
  · refine go (fun _ => XS.icmpNo X45.here hx rfl (hb hby d_prog_25_method_2_20) rfl (XT.ii_ne_f c20_46)) ?_
    show Ends p e below s _ _ _ T45 (mkF m 23 #[.val (.ref a), .val (.ref b), .val (.ref b)] [])
    refine go (fun _ => XS.aloadN X45.here hx rfl (hb hby d_prog_25_method_2_23) rfl rfl) ?_
    show Ends p e below s _ _ _ T45 (mkF m 24 #[.val (.ref a), .val (.ref b), .val (.ref b)] [(.ref a)])
    obtain ⟨T47, X47, e47, s47⟩ := getF X45 hx hZ hown (host := "") (Or.inl (hw _ (List.mem_of_getElem? (i := 16) rfl))) Via.refl e45 Fa_node (g := (mkF m 24 #[.val (.ref a), .val (.ref b), .val (.ref b)] [(.ref a)])) rfl rfl (hb hby d_prog_25_method_2_24)
    refine go s47 ?_
    show Ends p e below s _ _ _ T47 (mkF m 27 #[.val (.ref a), .val (.ref b), .val (.ref b)] [(.int y)])
    refine go (fun _ => XS.aloadN X47.here hx rfl (hb hby d_prog_25_method_2_27) rfl rfl) ?_
    show Ends p e below s _ _ _ T47 (mkF m 28 #[.val (.ref a), .val (.ref b), .val (.ref b)] [(.ref b), (.int y)])
    obtain ⟨T48, X48, e48, s48⟩ := getF X47 hx hZ hown (host := "") (Or.inl (hw _ (List.mem_of_getElem? (i := 16) rfl))) Via.refl e47 Fb_node (g := (mkF m 28 #[.val (.ref a), .val (.ref b), .val (.ref b)] [(.ref b), (.int y)])) rfl rfl (hb hby d_prog_25_method_2_28)
    refine go s48 ?_
    show Ends p e below s _ _ _ T48 (mkF m 31 #[.val (.ref a), .val (.ref b), .val (.ref b)] [(.int y'), (.int y)])
    by_cases c31_49 : y = y'
    · refine go (fun _ => XS.icmpNo X48.here hx rfl (hb hby d_prog_25_method_2_31) rfl (XT.ii_ne_f c31_49)) ?_
      show Ends p e below s _ _ _ T48 (mkF m 34 #[.val (.ref a), .val (.ref b), .val (.ref b)] [])
      refine go (fun _ => XT.iconstV X48.here hx rfl (1 : Int32) (hb hby d_prog_25_method_2_34) (by decide)) ?_
      show Ends p e below s _ _ _ T48 (mkF m 35 #[.val (.ref a), .val (.ref b), .val (.ref b)] [(.int (1 : Int32))])
      refine go (fun _ => XS.goto X48.here hx rfl (pc0 := 35) (pc' := 39) rfl (hb hby d_prog_25_method_2_35) (by decide) (by decide)) ?_
      show Ends p e below s _ _ _ T48 (mkF m 39 #[.val (.ref a), .val (.ref b), .val (.ref b)] [(.int (1 : Int32))])
      exact endN X48 hx hlk hret (by simp) (hb hby d_prog_25_method_2_39) e48 ⟨by simp [own_eq, nar, c20_46, c31_49], (Fr.nil _), rfl⟩ (by decide) (by decide)
    · refine go (fun _ => XS.icmpYes X48.here hx rfl (pc0 := 31) (pc' := 38) rfl (hb hby d_prog_25_method_2_31) rfl (XT.ii_ne_t c31_49) (by decide) (by decide)) ?_
      show Ends p e below s _ _ _ T48 (mkF m 38 #[.val (.ref a), .val (.ref b), .val (.ref b)] [])
      refine go (fun _ => XT.iconstV X48.here hx rfl (0 : Int32) (hb hby d_prog_25_method_2_38) (by decide)) ?_
      show Ends p e below s _ _ _ T48 (mkF m 39 #[.val (.ref a), .val (.ref b), .val (.ref b)] [(.int (0 : Int32))])
      exact endN X48 hx hlk hret (by simp) (hb hby d_prog_25_method_2_39) e48 ⟨by simp [own_eq, nar, c20_46, c31_49], (Fr.nil _), rfl⟩ (by decide) (by decide)
  · refine go (fun _ => XS.icmpYes X45.here hx rfl (pc0 := 20) (pc' := 38) rfl (hb hby d_prog_25_method_2_20) rfl (XT.ii_ne_t c20_46) (by decide) (by decide)) ?_
    show Ends p e below s _ _ _ T45 (mkF m 38 #[.val (.ref a), .val (.ref b), .val (.ref b)] [])
    refine go (fun _ => XT.iconstV X45.here hx rfl (0 : Int32) (hb hby d_prog_25_method_2_38) (by decide)) ?_
    show Ends p e below s _ _ _ T45 (mkF m 39 #[.val (.ref a), .val (.ref b), .val (.ref b)] [(.int (0 : Int32))])
    exact endN X45 hx hlk hret (by simp) (hb hby d_prog_25_method_2_39) e45 ⟨by simp [own_eq, nar, c20_46], (Fr.nil _), rfl⟩ (by decide) (by decide)
set_option maxRecDepth 65536 in
set_option maxHeartbeats 40000000 in
theorem rm_eqN {l : Launch} {Z : State} {a0 : Array Value} (hw : ∀ d ∈ tables_1, d.before a0 Z = true) (a : Addr) (h0 : Heap)  :
    Con l (⟨"com/example/libtbox/libtbox/core/Edge", "equals", "(Ljava/lang/Object;)Z"⟩ : MethodName) prog_25_method_2_code 3 (some .boolean) ({ frames := 0, cells := 0, slots := 0, locals := 0 } : Room) Z #[(.ref a), .null] h0 (fun v h L => v = some (.int 0) ∧ Fr Z.heap.size L ∧ h0 = h) := by
  refine Con.of (plainFor_of_name pn_1) (Ls := #[.val (.ref a), .val .null, .unset]) (fun m => by first | rfl | (simp [entryFrame, mkF, argsToLocals, Value.category]; done)) ?_
  intro p e s m below meth c T0 X0 hx hZ hby hml hown hnm hret hlk e0
  refine go (fun _ => XS.aloadN X0.here hx rfl (hb hby d_prog_25_method_2_0) rfl rfl) ?_
  show Ends p e below s _ _ _ T0 (mkF m 1 #[.val (.ref a), .val .null, .unset] [.null])
  refine go (Jvm.Stand.instanceofNull X0 hx (g := (mkF m 1 #[.val (.ref a), .val .null, .unset] [.null])) rfl rfl (hb hby d_prog_25_method_2_1)) ?_
  show Ends p e below s _ _ _ T0 (mkF m 4 #[.val (.ref a), .val .null, .unset] [(.int (0 : Int32))])
  refine go (fun _ => XS.ifYes X0.here hx rfl (pc0 := 4) (pc' := 38) rfl (hb hby d_prog_25_method_2_4) rfl (XT.i0_eq_t ((by decide) : (0 : Int32) = (0 : Int32))) (by decide) (by decide)) ?_
  show Ends p e below s _ _ _ T0 (mkF m 38 #[.val (.ref a), .val .null, .unset] [])
  refine go (fun _ => XT.iconstV X0.here hx rfl (0 : Int32) (hb hby d_prog_25_method_2_38) (by decide)) ?_
  show Ends p e below s _ _ _ T0 (mkF m 39 #[.val (.ref a), .val .null, .unset] [(.int (0 : Int32))])
  exact endN X0 hx hlk hret (by simp) (hb hby d_prog_25_method_2_39) e0 ⟨rfl, (Fr.nil _), rfl⟩ (by decide) (by decide)
set_option maxRecDepth 65536 in
set_option maxHeartbeats 40000000 in
theorem rm_eqI {l : Launch} {Z : State} {a0 : Array Value} (hw : ∀ d ∈ tables_1, d.before a0 Z = true) (a b : Addr) (h0 : Heap) (Eb : Exa Z h0 b "java/lang/Integer") :
    Con l (⟨"com/example/libtbox/libtbox/core/Edge", "equals", "(Ljava/lang/Object;)Z"⟩ : MethodName) prog_25_method_2_code 3 (some .boolean) ({ frames := 0, cells := 0, slots := 0, locals := 0 } : Room) Z #[(.ref a), (.ref b)] h0 (fun v h L => v = some (.int 0) ∧ Fr Z.heap.size L ∧ h0 = h) := by
  refine Con.of (plainFor_of_name pn_1) (Ls := #[.val (.ref a), .val (.ref b), .unset]) (fun m => by first | rfl | (simp [entryFrame, mkF, argsToLocals, Value.category]; done)) ?_
  intro p e s m below meth c T0 X0 hx hZ hby hml hown hnm hret hlk e0
  refine go (fun _ => XS.aloadN X0.here hx rfl (hb hby d_prog_25_method_2_0) rfl rfl) ?_
  show Ends p e below s _ _ _ T0 (mkF m 1 #[.val (.ref a), .val (.ref b), .unset] [(.ref b)])
  obtain ⟨T51, X51, e51, s51⟩ := instNo X0 hx hZ hown (hw _ (List.mem_of_getElem? (i := 23) rfl)) e0 Eb (own_nsno (hw _ (List.mem_of_getElem? (i := 32) rfl)) (hw _ (List.mem_of_getElem? (i := 1) rfl)) (NS.step (hw _ (List.mem_of_getElem? (i := 32) rfl)) (NS.step (hw _ (List.mem_of_getElem? (i := 33) rfl)) (own_nsroot (hw _ (List.mem_of_getElem? (i := 34) rfl)) (hw _ (List.mem_of_getElem? (i := 1) rfl)) (by decide)) (by decide)) (by decide)) (by decide)) (g := (mkF m 1 #[.val (.ref a), .val (.ref b), .unset] [(.ref b)])) rfl rfl (hb hby d_prog_25_method_2_1)
  refine go s51 ?_
  show Ends p e below s _ _ _ T51 (mkF m 4 #[.val (.ref a), .val (.ref b), .unset] [(.int (0 : Int32))])
  refine go (fun _ => XS.ifYes X51.here hx rfl (pc0 := 4) (pc' := 38) rfl (hb hby d_prog_25_method_2_4) rfl (XT.i0_eq_t ((by decide) : (0 : Int32) = (0 : Int32))) (by decide) (by decide)) ?_
  show Ends p e below s _ _ _ T51 (mkF m 38 #[.val (.ref a), .val (.ref b), .unset] [])
  refine go (fun _ => XT.iconstV X51.here hx rfl (0 : Int32) (hb hby d_prog_25_method_2_38) (by decide)) ?_
  show Ends p e below s _ _ _ T51 (mkF m 39 #[.val (.ref a), .val (.ref b), .unset] [(.int (0 : Int32))])
  exact endN X51 hx hlk hret (by simp) (hb hby d_prog_25_method_2_39) e51 ⟨rfl, (Fr.nil _), rfl⟩ (by decide) (by decide)
set_option maxRecDepth 65536 in
set_option maxHeartbeats 40000000 in
theorem rm_law {l : Launch} {Z : State} {a0 : Array Value} (hw : ∀ d ∈ tables_1, d.before a0 Z = true) (i0 i1 i2 i3 i4 : Int32) (aB : Addr) (cB : Cell) (h0 : Heap) (O0 : Ext Z.heap h0) (SH : Sta Z Z.heap "java/lang/Integer$IntegerCache" "high" "I" (.int 127)) (SB : Sta Z Z.heap "java/lang/Integer$IntegerCache" "cache" "[Ljava/lang/Integer;" (.ref aB)) (BX : Bxs Z aB cB "java/lang/Integer" "I" (256 : Int32) (fun j => .int (j - 128))) :
    Con l x code maxLocals ret room_1 Z #[(.int i0), (.int i1), (.int i2), (.int i3), (.int i4)] h0 (fun v h L => v = some (.int 1) ∧ Fr Z.heap.size L) := by
  refine Con.of (plainFor_of_name pn_6) (Ls := #[.val (.int i0), .val (.int i1), .val (.int i2), .val (.int i3), .val (.int i4), .unset, .unset, .unset, .unset, .unset, .unset]) (fun m => by first | rfl | (simp [entryFrame, mkF, argsToLocals, Value.category, maxLocals]; done)) ?_
  intro p e s m below meth c T0 X0 hx hZ hby hml hown hnm hret hlk e0
  have hml : c.maxLocals = 11 := hml
  refine go (fun _ => XS.iload X0.here hx rfl (hb hby at_0) rfl) ?_
  show Ends p e below s _ _ _ T0 (mkF m 2 #[.val (.int i0), .val (.int i1), .val (.int i2), .val (.int i3), .val (.int i4), .unset, .unset, .unset, .unset, .unset, .unset] [(.int i4)])
  refine go (fun _ => XT.iconstV X0.here hx rfl (1 : Int32) (hb hby at_2) (by decide)) ?_
  show Ends p e below s _ _ _ T0 (mkF m 3 #[.val (.int i0), .val (.int i1), .val (.int i2), .val (.int i3), .val (.int i4), .unset, .unset, .unset, .unset, .unset, .unset] [(.int (1 : Int32)), (.int i4)])
  refine go (fun _ => XS.iand X0.here hx rfl (hb hby at_3) rfl) ?_
  show Ends p e below s _ _ _ T0 (mkF m 4 #[.val (.int i0), .val (.int i1), .val (.int i2), .val (.int i3), .val (.int i4), .unset, .unset, .unset, .unset, .unset, .unset] [(.int (i4 &&& (1 : Int32)))])
  have J12 : ∀ (z52_0 : Int32), Ends p e below s (fun v h L => v = some (.int 1) ∧ Fr Z.heap.size L) room_1.cells room_1.slots T0 (mkF m 12 #[.val (.int i0), .val (.int i1), .val (.int i2), .val (.int i3), .val (.int i4), .unset, .unset, .unset, .unset, .unset, .unset] [(.int z52_0)]) := by
    intro z52_0
    refine go (fun _ => XS.istore X0.here hx rfl (hb hby at_12) rfl (l' := #[.val (.int i0), .val (.int i1), .val (.int i2), .val (.int i3), .val (.int i4), .val (.int z52_0), .unset, .unset, .unset, .unset, .unset]) rfl) ?_
    show Ends p e below s _ _ _ T0 (mkF m 14 #[.val (.int i0), .val (.int i1), .val (.int i2), .val (.int i3), .val (.int i4), .val (.int z52_0), .unset, .unset, .unset, .unset, .unset] [])
    refine go (fun _ => XS.iload X0.here hx rfl (hb hby at_14) rfl) ?_
    show Ends p e below s _ _ _ T0 (mkF m 16 #[.val (.int i0), .val (.int i1), .val (.int i2), .val (.int i3), .val (.int i4), .val (.int z52_0), .unset, .unset, .unset, .unset, .unset] [(.int i4)])
    refine go (fun _ => XT.iconstV X0.here hx rfl (2 : Int32) (hb hby at_16) (by decide)) ?_
    show Ends p e below s _ _ _ T0 (mkF m 17 #[.val (.int i0), .val (.int i1), .val (.int i2), .val (.int i3), .val (.int i4), .val (.int z52_0), .unset, .unset, .unset, .unset, .unset] [(.int (2 : Int32)), (.int i4)])
    refine go (fun _ => XS.iand X0.here hx rfl (hb hby at_17) rfl) ?_
    show Ends p e below s _ _ _ T0 (mkF m 18 #[.val (.int i0), .val (.int i1), .val (.int i2), .val (.int i3), .val (.int i4), .val (.int z52_0), .unset, .unset, .unset, .unset, .unset] [(.int (i4 &&& (2 : Int32)))])
    have J26 : ∀ (z53_0 : Int32), Ends p e below s (fun v h L => v = some (.int 1) ∧ Fr Z.heap.size L) room_1.cells room_1.slots T0 (mkF m 26 #[.val (.int i0), .val (.int i1), .val (.int i2), .val (.int i3), .val (.int i4), .val (.int z52_0), .unset, .unset, .unset, .unset, .unset] [(.int z53_0)]) := by
      intro z53_0
      refine go (fun _ => XS.istore X0.here hx rfl (hb hby at_26) rfl (l' := #[.val (.int i0), .val (.int i1), .val (.int i2), .val (.int i3), .val (.int i4), .val (.int z52_0), .val (.int z53_0), .unset, .unset, .unset, .unset]) rfl) ?_
      show Ends p e below s _ _ _ T0 (mkF m 28 #[.val (.int i0), .val (.int i1), .val (.int i2), .val (.int i3), .val (.int i4), .val (.int z52_0), .val (.int z53_0), .unset, .unset, .unset, .unset] [])
      obtain ⟨T54, h54, X54, e54, E54, A54, D54, U54, s54⟩ := newO X0 hx hZ hown (hw _ (List.mem_of_getElem? (i := 0) rfl)) (hw _ (List.mem_of_getElem? (i := 1) rfl)) (hw _ (List.mem_of_getElem? (i := 2) rfl)) e0 (g := (mkF m 28 #[.val (.int i0), .val (.int i1), .val (.int i2), .val (.int i3), .val (.int i4), .val (.int z52_0), .val (.int z53_0), .unset, .unset, .unset, .unset] [])) rfl (hb hby at_28) (by decide) (by decide)
      obtain ⟨a54, g54⟩ : ∃ z : Addr, z = h0.size := ⟨_, rfl⟩
      have f54 : Z.heap.size ≤ a54 := by rw [g54]; exact (O0).1
      rw [← g54] at A54 D54 U54 s54
      have O55 : Ext Z.heap h54 := xx O0 E54
      refine go s54 ?_
      show Ends p e below s _ _ _ T54 (mkF m 31 #[.val (.int i0), .val (.int i1), .val (.int i2), .val (.int i3), .val (.int i4), .val (.int z52_0), .val (.int z53_0), .unset, .unset, .unset, .unset] [(.ref a54)])
      refine go (fun _ => XS.dup X54.here hx rfl (hb hby at_31) rfl rfl) ?_
      show Ends p e below s _ _ _ T54 (mkF m 32 #[.val (.int i0), .val (.int i1), .val (.int i2), .val (.int i3), .val (.int i4), .val (.int z52_0), .val (.int z53_0), .unset, .unset, .unset, .unset] [(.ref a54), (.ref a54)])
      refine go (fun _ => XS.iloadN X54.here hx rfl (hb hby at_32) rfl) ?_
      show Ends p e below s _ _ _ T54 (mkF m 33 #[.val (.int i0), .val (.int i1), .val (.int i2), .val (.int i3), .val (.int i4), .val (.int z52_0), .val (.int z53_0), .unset, .unset, .unset, .unset] [(.int i0), (.ref a54), (.ref a54)])
      refine go (fun _ => XS.iloadN X54.here hx rfl (hb hby at_33) rfl) ?_
      show Ends p e below s _ _ _ T54 (mkF m 34 #[.val (.int i0), .val (.int i1), .val (.int i2), .val (.int i3), .val (.int i4), .val (.int z52_0), .val (.int z53_0), .unset, .unset, .unset, .unset] [(.int i1), (.int i0), (.ref a54), (.ref a54)])
      have F56 := (D54 (Or.inr (hw _ (List.mem_of_getElem? (i := 15) rfl))) (ty := .int) (by decide))
      have F57 := (D54 (Or.inr (hw _ (List.mem_of_getElem? (i := 17) rfl))) (ty := .int) (by decide))
      refine cInit X54 hx hZ hown (by rw [hml]; rfl) e54 (hw _ (List.mem_of_getElem? (i := 3) rfl)) (hw _ (List.mem_of_getElem? (i := 4) rfl)) (hw _ (List.mem_of_getElem? (i := 2) rfl)) (hw _ (List.mem_of_getElem? (i := 5) rfl)) a54 [(.int i0), (.int i1)] [(.ref a54)] rfl (rm_edge hw a54 i0 i1 _ O55 f54 A54 F56 F57  ) (hb hby at_34) rfl (lenOf pd_7 rfl) rfl (by decide) (by decide) (Nat.le_of_ble_eq_true rfl) (by decide) (by decide) ?_
      rintro v58 T58 h58 L58 X58 e58 ⟨rfl, N58, K58, F58_0, F58_1⟩
      have N58a := Fr.app (Fr.nil _) N58
      have O59 : Ext Z.heap h58 := xk O55 K58 (allS f54 all0)
      show Ends p e below s _ _ _ T58 (mkF m 37 #[.val (.int i0), .val (.int i1), .val (.int i2), .val (.int i3), .val (.int i4), .val (.int z52_0), .val (.int z53_0), .unset, .unset, .unset, .unset] [(.ref a54)])
      refine go (fun _ => XS.astore X58.here hx rfl (hb hby at_37) rfl rfl (l' := #[.val (.int i0), .val (.int i1), .val (.int i2), .val (.int i3), .val (.int i4), .val (.int z52_0), .val (.int z53_0), .val (.ref a54), .unset, .unset, .unset]) rfl) ?_
      show Ends p e below s _ _ _ T58 (mkF m 39 #[.val (.int i0), .val (.int i1), .val (.int i2), .val (.int i3), .val (.int i4), .val (.int z52_0), .val (.int z53_0), .val (.ref a54), .unset, .unset, .unset] [])
      obtain ⟨T60, h60, X60, e60, E60, A60, D60, U60, s60⟩ := newO X58 hx hZ hown (hw _ (List.mem_of_getElem? (i := 0) rfl)) (hw _ (List.mem_of_getElem? (i := 1) rfl)) (hw _ (List.mem_of_getElem? (i := 2) rfl)) e58 (g := (mkF m 39 #[.val (.int i0), .val (.int i1), .val (.int i2), .val (.int i3), .val (.int i4), .val (.int z52_0), .val (.int z53_0), .val (.ref a54), .unset, .unset, .unset] [])) rfl (hb hby at_39) (by decide) (by decide)
      have F61 := (Exa.keep A54 K58)
      obtain ⟨a60, g60⟩ : ∃ z : Addr, z = h58.size := ⟨_, rfl⟩
      have n62 : a54 ≠ a60 := fun q => absurd (F61.lt) (by rw [q, g60]; exact Nat.lt_irrefl _)
      have f60 : Z.heap.size ≤ a60 := by rw [g60]; exact (O59).1
      rw [← g60] at A60 D60 U60 s60
      have O63 : Ext Z.heap h60 := xx O59 E60
      refine go s60 ?_
      show Ends p e below s _ _ _ T60 (mkF m 42 #[.val (.int i0), .val (.int i1), .val (.int i2), .val (.int i3), .val (.int i4), .val (.int z52_0), .val (.int z53_0), .val (.ref a54), .unset, .unset, .unset] [(.ref a60)])
      refine go (fun _ => XS.dup X60.here hx rfl (hb hby at_42) rfl rfl) ?_
      show Ends p e below s _ _ _ T60 (mkF m 43 #[.val (.int i0), .val (.int i1), .val (.int i2), .val (.int i3), .val (.int i4), .val (.int z52_0), .val (.int z53_0), .val (.ref a54), .unset, .unset, .unset] [(.ref a60), (.ref a60)])
      refine go (fun _ => XS.iload X60.here hx rfl (hb hby at_43) rfl) ?_
      show Ends p e below s _ _ _ T60 (mkF m 45 #[.val (.int i0), .val (.int i1), .val (.int i2), .val (.int i3), .val (.int i4), .val (.int z52_0), .val (.int z53_0), .val (.ref a54), .unset, .unset, .unset] [(.int z52_0), (.ref a60), (.ref a60)])
      refine go (fun _ => XS.iload X60.here hx rfl (hb hby at_45) rfl) ?_
      show Ends p e below s _ _ _ T60 (mkF m 47 #[.val (.int i0), .val (.int i1), .val (.int i2), .val (.int i3), .val (.int i4), .val (.int z52_0), .val (.int z53_0), .val (.ref a54), .unset, .unset, .unset] [(.int z53_0), (.int z52_0), (.ref a60), (.ref a60)])
      have F64 := (D60 (Or.inr (hw _ (List.mem_of_getElem? (i := 15) rfl))) (ty := .int) (by decide))
      have F65 := (D60 (Or.inr (hw _ (List.mem_of_getElem? (i := 17) rfl))) (ty := .int) (by decide))
      refine cInit X60 hx hZ hown (by rw [hml]; rfl) e60 (hw _ (List.mem_of_getElem? (i := 3) rfl)) (hw _ (List.mem_of_getElem? (i := 4) rfl)) (hw _ (List.mem_of_getElem? (i := 2) rfl)) (hw _ (List.mem_of_getElem? (i := 5) rfl)) a60 [(.int z52_0), (.int z53_0)] [(.ref a60)] rfl (rm_edge hw a60 z52_0 z53_0 _ O63 f60 A60 F64 F65  ) (hb hby at_47) rfl (lenOf pd_7 rfl) rfl (by decide) (by decide) (Nat.le_of_ble_eq_true rfl) (by decide) (by decide) ?_
      rintro v66 T66 h66 L66 X66 e66 ⟨rfl, N66, K66, F66_0, F66_1⟩
      have N66a := Fr.app N58a N66
      have O67 : Ext Z.heap h66 := xk O63 K66 (allS f60 all0)
      show Ends p e below s _ _ _ T66 (mkF m 50 #[.val (.int i0), .val (.int i1), .val (.int i2), .val (.int i3), .val (.int i4), .val (.int z52_0), .val (.int z53_0), .val (.ref a54), .unset, .unset, .unset] [(.ref a60)])
      refine go (fun _ => XS.astore X66.here hx rfl (hb hby at_50) rfl rfl (l' := #[.val (.int i0), .val (.int i1), .val (.int i2), .val (.int i3), .val (.int i4), .val (.int z52_0), .val (.int z53_0), .val (.ref a54), .val (.ref a60), .unset, .unset]) rfl) ?_
      show Ends p e below s _ _ _ T66 (mkF m 52 #[.val (.int i0), .val (.int i1), .val (.int i2), .val (.int i3), .val (.int i4), .val (.int z52_0), .val (.int z53_0), .val (.ref a54), .val (.ref a60), .unset, .unset] [])
      refine go (fun _ => XS.iloadN X66.here hx rfl (hb hby at_52) rfl) ?_
      show Ends p e below s _ _ _ T66 (mkF m 53 #[.val (.int i0), .val (.int i1), .val (.int i2), .val (.int i3), .val (.int i4), .val (.int z52_0), .val (.int z53_0), .val (.ref a54), .val (.ref a60), .unset, .unset] [(.int i0)])
      refine go (fun _ => XS.iload X66.here hx rfl (hb hby at_53) rfl) ?_
      show Ends p e below s _ _ _ T66 (mkF m 55 #[.val (.int i0), .val (.int i1), .val (.int i2), .val (.int i3), .val (.int i4), .val (.int z52_0), .val (.int z53_0), .val (.ref a54), .val (.ref a60), .unset, .unset] [(.int z52_0), (.int i0)])
      by_cases c55_68 : i0 = z52_0
      · refine go (fun _ => XS.icmpNo X66.here hx rfl (hb hby at_55) rfl (XT.ii_ne_f c55_68)) ?_
        show Ends p e below s _ _ _ T66 (mkF m 58 #[.val (.int i0), .val (.int i1), .val (.int i2), .val (.int i3), .val (.int i4), .val (.int z52_0), .val (.int z53_0), .val (.ref a54), .val (.ref a60), .unset, .unset] [])
        refine go (fun _ => XS.iloadN X66.here hx rfl (hb hby at_58) rfl) ?_
        show Ends p e below s _ _ _ T66 (mkF m 59 #[.val (.int i0), .val (.int i1), .val (.int i2), .val (.int i3), .val (.int i4), .val (.int z52_0), .val (.int z53_0), .val (.ref a54), .val (.ref a60), .unset, .unset] [(.int i1)])
        refine go (fun _ => XS.iload X66.here hx rfl (hb hby at_59) rfl) ?_
        show Ends p e below s _ _ _ T66 (mkF m 61 #[.val (.int i0), .val (.int i1), .val (.int i2), .val (.int i3), .val (.int i4), .val (.int z52_0), .val (.int z53_0), .val (.ref a54), .val (.ref a60), .unset, .unset] [(.int z53_0), (.int i1)])
        by_cases c61_69 : i1 = z53_0
        · refine go (fun _ => XS.icmpNo X66.here hx rfl (hb hby at_61) rfl (XT.ii_ne_f c61_69)) ?_
          show Ends p e below s _ _ _ T66 (mkF m 64 #[.val (.int i0), .val (.int i1), .val (.int i2), .val (.int i3), .val (.int i4), .val (.int z52_0), .val (.int z53_0), .val (.ref a54), .val (.ref a60), .unset, .unset] [])
          refine go (fun _ => XT.iconstV X66.here hx rfl (1 : Int32) (hb hby at_64) (by decide)) ?_
          show Ends p e below s _ _ _ T66 (mkF m 65 #[.val (.int i0), .val (.int i1), .val (.int i2), .val (.int i3), .val (.int i4), .val (.int z52_0), .val (.int z53_0), .val (.ref a54), .val (.ref a60), .unset, .unset] [(.int (1 : Int32))])
          refine go (fun _ => XS.goto X66.here hx rfl (pc0 := 65) (pc' := 69) rfl (hb hby at_65) (by decide) (by decide)) ?_
          show Ends p e below s _ _ _ T66 (mkF m 69 #[.val (.int i0), .val (.int i1), .val (.int i2), .val (.int i3), .val (.int i4), .val (.int z52_0), .val (.int z53_0), .val (.ref a54), .val (.ref a60), .unset, .unset] [(.int (1 : Int32))])
          refine go (fun _ => XS.istore X66.here hx rfl (hb hby at_69) rfl (l' := #[.val (.int i0), .val (.int i1), .val (.int i2), .val (.int i3), .val (.int i4), .val (.int z52_0), .val (.int z53_0), .val (.ref a54), .val (.ref a60), .val (.int (1 : Int32)), .unset]) rfl) ?_
          show Ends p e below s _ _ _ T66 (mkF m 71 #[.val (.int i0), .val (.int i1), .val (.int i2), .val (.int i3), .val (.int i4), .val (.int z52_0), .val (.int z53_0), .val (.ref a54), .val (.ref a60), .val (.int (1 : Int32)), .unset] [])
          refine go (fun _ => XS.aload X66.here hx rfl (hb hby at_71) rfl rfl) ?_
          show Ends p e below s _ _ _ T66 (mkF m 73 #[.val (.int i0), .val (.int i1), .val (.int i2), .val (.int i3), .val (.int i4), .val (.int z52_0), .val (.int z53_0), .val (.ref a54), .val (.ref a60), .val (.int (1 : Int32)), .unset] [(.ref a54)])
          refine go (fun _ => XS.aload X66.here hx rfl (hb hby at_73) rfl rfl) ?_
          show Ends p e below s _ _ _ T66 (mkF m 75 #[.val (.int i0), .val (.int i1), .val (.int i2), .val (.int i3), .val (.int i4), .val (.int z52_0), .val (.int z53_0), .val (.ref a54), .val (.ref a60), .val (.int (1 : Int32)), .unset] [(.ref a60), (.ref a54)])
          have F70 := (Exa.keep A60 K66)
          have F71 := (Fld.keep (Fld.ext E60 F58_0) K66 (ninS n62 nin0))
          have F72 := (Fld.keep (Fld.ext E60 F58_1) K66 (ninS n62 nin0))
          have F74 := (Exa.keep (Exa.ext E60 F61) K66)
          refine cVirt X66 hx hZ hown (by rw [hml]; rfl) e66 (hw _ (List.mem_of_getElem? (i := 18) rfl)) (hw _ (List.mem_of_getElem? (i := 19) rfl)) (hw _ (List.mem_of_getElem? (i := 21) rfl)) (hw _ (List.mem_of_getElem? (i := 20) rfl)) (hw _ (List.mem_of_getElem? (i := 2) rfl)) (hw _ (List.mem_of_getElem? (i := 22) rfl)) (notFace_of_selects (args := #[]) (mvT hZ (hw _ (List.mem_of_getElem? (i := 21) rfl)))) a54 F74 [(.ref a60)] [] rfl (rm_eqE hw a54 a60 i0 i1 z52_0 z53_0 _ F70 F71 F72 F66_0 F66_1) (hb hby at_75) rfl (lenOf pd_8 rfl) (by decide) (by decide) (Nat.le_of_ble_eq_true rfl) (by decide) (by decide) ?_
          rintro v73 T73 h73 L73 X73 e73 ⟨rfl, N73, rfl⟩
          have N73a := Fr.app N66a N73
          show Ends p e below s _ _ _ T73 (mkF m 78 #[.val (.int i0), .val (.int i1), .val (.int i2), .val (.int i3), .val (.int i4), .val (.int z52_0), .val (.int z53_0), .val (.ref a54), .val (.ref a60), .val (.int (1 : Int32)), .unset] [(.int (own_eq i0 i1 z52_0 z53_0))])
          refine go (fun _ => XS.iload X73.here hx rfl (hb hby at_78) rfl) ?_
          show Ends p e below s _ _ _ T73 (mkF m 80 #[.val (.int i0), .val (.int i1), .val (.int i2), .val (.int i3), .val (.int i4), .val (.int z52_0), .val (.int z53_0), .val (.ref a54), .val (.ref a60), .val (.int (1 : Int32)), .unset] [(.int (1 : Int32)), (.int (own_eq i0 i1 z52_0 z53_0))])
          have q80 : (own_eq i0 i1 z52_0 z53_0) = (1 : Int32) := by simp [own_eq, c55_68, c61_69]
          refine go (fun _ => XS.icmpYes X73.here hx rfl (pc0 := 80) (pc' := 85) rfl (hb hby at_80) rfl (XT.ii_eq_t q80) (by decide) (by decide)) ?_
          show Ends p e below s _ _ _ T73 (mkF m 85 #[.val (.int i0), .val (.int i1), .val (.int i2), .val (.int i3), .val (.int i4), .val (.int z52_0), .val (.int z53_0), .val (.ref a54), .val (.ref a60), .val (.int (1 : Int32)), .unset] [])
          refine go (fun _ => XS.aload X73.here hx rfl (hb hby at_85) rfl rfl) ?_
          show Ends p e below s _ _ _ T73 (mkF m 87 #[.val (.int i0), .val (.int i1), .val (.int i2), .val (.int i3), .val (.int i4), .val (.int z52_0), .val (.int z53_0), .val (.ref a54), .val (.ref a60), .val (.int (1 : Int32)), .unset] [(.ref a60)])
          refine go (fun _ => XS.aload X73.here hx rfl (hb hby at_87) rfl rfl) ?_
          show Ends p e below s _ _ _ T73 (mkF m 89 #[.val (.int i0), .val (.int i1), .val (.int i2), .val (.int i3), .val (.int i4), .val (.int z52_0), .val (.int z53_0), .val (.ref a54), .val (.ref a60), .val (.int (1 : Int32)), .unset] [(.ref a54), (.ref a60)])
          refine cVirt X73 hx hZ hown (by rw [hml]; rfl) e73 (hw _ (List.mem_of_getElem? (i := 18) rfl)) (hw _ (List.mem_of_getElem? (i := 19) rfl)) (hw _ (List.mem_of_getElem? (i := 21) rfl)) (hw _ (List.mem_of_getElem? (i := 20) rfl)) (hw _ (List.mem_of_getElem? (i := 2) rfl)) (hw _ (List.mem_of_getElem? (i := 22) rfl)) (notFace_of_selects (args := #[]) (mvT hZ (hw _ (List.mem_of_getElem? (i := 21) rfl)))) a60 F70 [(.ref a54)] [] rfl (rm_eqE hw a60 a54 z52_0 z53_0 i0 i1 _ F74 F66_0 F66_1 F71 F72) (hb hby at_89) rfl (lenOf pd_8 rfl) (by decide) (by decide) (Nat.le_of_ble_eq_true rfl) (by decide) (by decide) ?_
          rintro v75 T75 h75 L75 X75 e75 ⟨rfl, N75, rfl⟩
          have N75a := Fr.app N73a N75
          show Ends p e below s _ _ _ T75 (mkF m 92 #[.val (.int i0), .val (.int i1), .val (.int i2), .val (.int i3), .val (.int i4), .val (.int z52_0), .val (.int z53_0), .val (.ref a54), .val (.ref a60), .val (.int (1 : Int32)), .unset] [(.int (own_eq z52_0 z53_0 i0 i1))])
          refine go (fun _ => XS.iload X75.here hx rfl (hb hby at_92) rfl) ?_
          show Ends p e below s _ _ _ T75 (mkF m 94 #[.val (.int i0), .val (.int i1), .val (.int i2), .val (.int i3), .val (.int i4), .val (.int z52_0), .val (.int z53_0), .val (.ref a54), .val (.ref a60), .val (.int (1 : Int32)), .unset] [(.int (1 : Int32)), (.int (own_eq z52_0 z53_0 i0 i1))])
          have q94 : (own_eq z52_0 z53_0 i0 i1) = (1 : Int32) := by rw [own_eqc]; simp [own_eq, c55_68, c61_69]
          refine go (fun _ => XS.icmpYes X75.here hx rfl (pc0 := 94) (pc' := 99) rfl (hb hby at_94) rfl (XT.ii_eq_t q94) (by decide) (by decide)) ?_
          show Ends p e below s _ _ _ T75 (mkF m 99 #[.val (.int i0), .val (.int i1), .val (.int i2), .val (.int i3), .val (.int i4), .val (.int z52_0), .val (.int z53_0), .val (.ref a54), .val (.ref a60), .val (.int (1 : Int32)), .unset] [])
          refine go (fun _ => XS.aload X75.here hx rfl (hb hby at_99) rfl rfl) ?_
          show Ends p e below s _ _ _ T75 (mkF m 101 #[.val (.int i0), .val (.int i1), .val (.int i2), .val (.int i3), .val (.int i4), .val (.int z52_0), .val (.int z53_0), .val (.ref a54), .val (.ref a60), .val (.int (1 : Int32)), .unset] [(.ref a54)])
          refine go (fun _ => XS.aload X75.here hx rfl (hb hby at_101) rfl rfl) ?_
          show Ends p e below s _ _ _ T75 (mkF m 103 #[.val (.int i0), .val (.int i1), .val (.int i2), .val (.int i3), .val (.int i4), .val (.int z52_0), .val (.int z53_0), .val (.ref a54), .val (.ref a60), .val (.int (1 : Int32)), .unset] [(.ref a54), (.ref a54)])
          refine cVirt X75 hx hZ hown (by rw [hml]; rfl) e75 (hw _ (List.mem_of_getElem? (i := 18) rfl)) (hw _ (List.mem_of_getElem? (i := 19) rfl)) (hw _ (List.mem_of_getElem? (i := 21) rfl)) (hw _ (List.mem_of_getElem? (i := 20) rfl)) (hw _ (List.mem_of_getElem? (i := 2) rfl)) (hw _ (List.mem_of_getElem? (i := 22) rfl)) (notFace_of_selects (args := #[]) (mvT hZ (hw _ (List.mem_of_getElem? (i := 21) rfl)))) a54 F74 [(.ref a54)] [] rfl (rm_eqE hw a54 a54 i0 i1 i0 i1 _ F74 F71 F72 F71 F72) (hb hby at_103) rfl (lenOf pd_8 rfl) (by decide) (by decide) (Nat.le_of_ble_eq_true rfl) (by decide) (by decide) ?_
          rintro v76 T76 h76 L76 X76 e76 ⟨rfl, N76, rfl⟩
          have N76a := Fr.app N75a N76
          show Ends p e below s _ _ _ T76 (mkF m 106 #[.val (.int i0), .val (.int i1), .val (.int i2), .val (.int i3), .val (.int i4), .val (.int z52_0), .val (.int z53_0), .val (.ref a54), .val (.ref a60), .val (.int (1 : Int32)), .unset] [(.int (own_eq i0 i1 i0 i1))])
          have q106 : ¬ (own_eq i0 i1 i0 i1) = (0 : Int32) := by rw [own_eqs]; decide
          refine go (fun _ => XS.ifYes X76.here hx rfl (pc0 := 106) (pc' := 111) rfl (hb hby at_106) rfl (XT.i0_ne_t q106) (by decide) (by decide)) ?_
          show Ends p e below s _ _ _ T76 (mkF m 111 #[.val (.int i0), .val (.int i1), .val (.int i2), .val (.int i3), .val (.int i4), .val (.int z52_0), .val (.int z53_0), .val (.ref a54), .val (.ref a60), .val (.int (1 : Int32)), .unset] [])
          refine go (fun _ => XS.aload X76.here hx rfl (hb hby at_111) rfl rfl) ?_
          show Ends p e below s _ _ _ T76 (mkF m 113 #[.val (.int i0), .val (.int i1), .val (.int i2), .val (.int i3), .val (.int i4), .val (.int z52_0), .val (.int z53_0), .val (.ref a54), .val (.ref a60), .val (.int (1 : Int32)), .unset] [(.ref a54)])
          refine go (fun _ => XS.aconstNull X76.here hx rfl (hb hby at_113)) ?_
          show Ends p e below s _ _ _ T76 (mkF m 114 #[.val (.int i0), .val (.int i1), .val (.int i2), .val (.int i3), .val (.int i4), .val (.int z52_0), .val (.int z53_0), .val (.ref a54), .val (.ref a60), .val (.int (1 : Int32)), .unset] [.null, (.ref a54)])
          refine cVirt X76 hx hZ hown (by rw [hml]; rfl) e76 (hw _ (List.mem_of_getElem? (i := 18) rfl)) (hw _ (List.mem_of_getElem? (i := 19) rfl)) (hw _ (List.mem_of_getElem? (i := 21) rfl)) (hw _ (List.mem_of_getElem? (i := 20) rfl)) (hw _ (List.mem_of_getElem? (i := 2) rfl)) (hw _ (List.mem_of_getElem? (i := 22) rfl)) (notFace_of_selects (args := #[]) (mvT hZ (hw _ (List.mem_of_getElem? (i := 21) rfl)))) a54 F74 [.null] [] rfl (rm_eqN hw a54 _) (hb hby at_114) rfl (lenOf pd_8 rfl) (by decide) (by decide) (Nat.le_of_ble_eq_true rfl) (by decide) (by decide) ?_
          rintro v77 T77 h77 L77 X77 e77 ⟨rfl, N77, rfl⟩
          have N77a := Fr.app N76a N77
          show Ends p e below s _ _ _ T77 (mkF m 117 #[.val (.int i0), .val (.int i1), .val (.int i2), .val (.int i3), .val (.int i4), .val (.int z52_0), .val (.int z53_0), .val (.ref a54), .val (.ref a60), .val (.int (1 : Int32)), .unset] [(.int (0 : Int32))])
          refine go (fun _ => XS.ifYes X77.here hx rfl (pc0 := 117) (pc' := 122) rfl (hb hby at_117) rfl (XT.i0_eq_t ((by decide) : (0 : Int32) = (0 : Int32))) (by decide) (by decide)) ?_
          show Ends p e below s _ _ _ T77 (mkF m 122 #[.val (.int i0), .val (.int i1), .val (.int i2), .val (.int i3), .val (.int i4), .val (.int z52_0), .val (.int z53_0), .val (.ref a54), .val (.ref a60), .val (.int (1 : Int32)), .unset] [])
          refine go (fun _ => XS.iloadN X77.here hx rfl (hb hby at_122) rfl) ?_
          show Ends p e below s _ _ _ T77 (mkF m 123 #[.val (.int i0), .val (.int i1), .val (.int i2), .val (.int i3), .val (.int i4), .val (.int z52_0), .val (.int z53_0), .val (.ref a54), .val (.ref a60), .val (.int (1 : Int32)), .unset] [(.int i0)])
          refine cStat X77 hx hZ hown (by rw [hml]; rfl) e77 (hw _ (List.mem_of_getElem? (i := 25) rfl)) (hw _ (List.mem_of_getElem? (i := 26) rfl)) (hw _ (List.mem_of_getElem? (i := 27) rfl)) (hw _ (List.mem_of_getElem? (i := 28) rfl)) [(.int i0)] [] rfl (rm_ivalueOf hw i0 aB cB _ O67 SH SB BX) (hb hby at_123) rfl (lenOf pd_9 rfl) (by decide) (by decide) (Nat.le_of_ble_eq_true rfl) (by decide) (by decide) ?_
          rintro v78 T78 h78 L78 X78 e78 ⟨b78, rfl, N78, K78, E78, F78_0⟩
          have N78a := Fr.app N77a N78
          have O79 : Ext Z.heap h78 := xk O67 K78 all0
          show Ends p e below s _ _ _ T78 (mkF m 126 #[.val (.int i0), .val (.int i1), .val (.int i2), .val (.int i3), .val (.int i4), .val (.int z52_0), .val (.int z53_0), .val (.ref a54), .val (.ref a60), .val (.int (1 : Int32)), .unset] [(.ref b78)])
          refine go (fun _ => XS.astore X78.here hx rfl (hb hby at_126) rfl rfl (l' := #[.val (.int i0), .val (.int i1), .val (.int i2), .val (.int i3), .val (.int i4), .val (.int z52_0), .val (.int z53_0), .val (.ref a54), .val (.ref a60), .val (.int (1 : Int32)), .val (.ref b78)]) rfl) ?_
          show Ends p e below s _ _ _ T78 (mkF m 128 #[.val (.int i0), .val (.int i1), .val (.int i2), .val (.int i3), .val (.int i4), .val (.int z52_0), .val (.int z53_0), .val (.ref a54), .val (.ref a60), .val (.int (1 : Int32)), .val (.ref b78)] [])
          refine go (fun _ => XS.aload X78.here hx rfl (hb hby at_128) rfl rfl) ?_
          show Ends p e below s _ _ _ T78 (mkF m 130 #[.val (.int i0), .val (.int i1), .val (.int i2), .val (.int i3), .val (.int i4), .val (.int z52_0), .val (.int z53_0), .val (.ref a54), .val (.ref a60), .val (.int (1 : Int32)), .val (.ref b78)] [(.ref a54)])
          refine go (fun _ => XS.aload X78.here hx rfl (hb hby at_130) rfl rfl) ?_
          show Ends p e below s _ _ _ T78 (mkF m 132 #[.val (.int i0), .val (.int i1), .val (.int i2), .val (.int i3), .val (.int i4), .val (.int z52_0), .val (.int z53_0), .val (.ref a54), .val (.ref a60), .val (.int (1 : Int32)), .val (.ref b78)] [(.ref b78), (.ref a54)])
          have F81 := (Exa.keep F74 K78)
          refine cVirt X78 hx hZ hown (by rw [hml]; rfl) e78 (hw _ (List.mem_of_getElem? (i := 18) rfl)) (hw _ (List.mem_of_getElem? (i := 19) rfl)) (hw _ (List.mem_of_getElem? (i := 21) rfl)) (hw _ (List.mem_of_getElem? (i := 20) rfl)) (hw _ (List.mem_of_getElem? (i := 2) rfl)) (hw _ (List.mem_of_getElem? (i := 22) rfl)) (notFace_of_selects (args := #[]) (mvT hZ (hw _ (List.mem_of_getElem? (i := 21) rfl)))) a54 F81 [(.ref b78)] [] rfl (rm_eqI hw a54 b78 _ E78) (hb hby at_132) rfl (lenOf pd_8 rfl) (by decide) (by decide) (Nat.le_of_ble_eq_true rfl) (by decide) (by decide) ?_
          rintro v80 T80 h80 L80 X80 e80 ⟨rfl, N80, rfl⟩
          have N80a := Fr.app N78a N80
          show Ends p e below s _ _ _ T80 (mkF m 135 #[.val (.int i0), .val (.int i1), .val (.int i2), .val (.int i3), .val (.int i4), .val (.int z52_0), .val (.int z53_0), .val (.ref a54), .val (.ref a60), .val (.int (1 : Int32)), .val (.ref b78)] [(.int (0 : Int32))])
          refine go (fun _ => XS.ifYes X80.here hx rfl (pc0 := 135) (pc' := 140) rfl (hb hby at_135) rfl (XT.i0_eq_t ((by decide) : (0 : Int32) = (0 : Int32))) (by decide) (by decide)) ?_
          show Ends p e below s _ _ _ T80 (mkF m 140 #[.val (.int i0), .val (.int i1), .val (.int i2), .val (.int i3), .val (.int i4), .val (.int z52_0), .val (.int z53_0), .val (.ref a54), .val (.ref a60), .val (.int (1 : Int32)), .val (.ref b78)] [])
          refine go (fun _ => XT.iconstV X80.here hx rfl (1 : Int32) (hb hby at_140) (by decide)) ?_
          show Ends p e below s _ _ _ T80 (mkF m 141 #[.val (.int i0), .val (.int i1), .val (.int i2), .val (.int i3), .val (.int i4), .val (.int z52_0), .val (.int z53_0), .val (.ref a54), .val (.ref a60), .val (.int (1 : Int32)), .val (.ref b78)] [(.int (1 : Int32))])
          exact endN X80 hx hlk hret (by simp) (hb hby at_141) e80 ⟨rfl, N80a⟩ (by decide) (by decide)
        · refine go (fun _ => XS.icmpYes X66.here hx rfl (pc0 := 61) (pc' := 68) rfl (hb hby at_61) rfl (XT.ii_ne_t c61_69) (by decide) (by decide)) ?_
          show Ends p e below s _ _ _ T66 (mkF m 68 #[.val (.int i0), .val (.int i1), .val (.int i2), .val (.int i3), .val (.int i4), .val (.int z52_0), .val (.int z53_0), .val (.ref a54), .val (.ref a60), .unset, .unset] [])
          refine go (fun _ => XT.iconstV X66.here hx rfl (0 : Int32) (hb hby at_68) (by decide)) ?_
          show Ends p e below s _ _ _ T66 (mkF m 69 #[.val (.int i0), .val (.int i1), .val (.int i2), .val (.int i3), .val (.int i4), .val (.int z52_0), .val (.int z53_0), .val (.ref a54), .val (.ref a60), .unset, .unset] [(.int (0 : Int32))])
          refine go (fun _ => XS.istore X66.here hx rfl (hb hby at_69) rfl (l' := #[.val (.int i0), .val (.int i1), .val (.int i2), .val (.int i3), .val (.int i4), .val (.int z52_0), .val (.int z53_0), .val (.ref a54), .val (.ref a60), .val (.int (0 : Int32)), .unset]) rfl) ?_
          show Ends p e below s _ _ _ T66 (mkF m 71 #[.val (.int i0), .val (.int i1), .val (.int i2), .val (.int i3), .val (.int i4), .val (.int z52_0), .val (.int z53_0), .val (.ref a54), .val (.ref a60), .val (.int (0 : Int32)), .unset] [])
          refine go (fun _ => XS.aload X66.here hx rfl (hb hby at_71) rfl rfl) ?_
          show Ends p e below s _ _ _ T66 (mkF m 73 #[.val (.int i0), .val (.int i1), .val (.int i2), .val (.int i3), .val (.int i4), .val (.int z52_0), .val (.int z53_0), .val (.ref a54), .val (.ref a60), .val (.int (0 : Int32)), .unset] [(.ref a54)])
          refine go (fun _ => XS.aload X66.here hx rfl (hb hby at_73) rfl rfl) ?_
          show Ends p e below s _ _ _ T66 (mkF m 75 #[.val (.int i0), .val (.int i1), .val (.int i2), .val (.int i3), .val (.int i4), .val (.int z52_0), .val (.int z53_0), .val (.ref a54), .val (.ref a60), .val (.int (0 : Int32)), .unset] [(.ref a60), (.ref a54)])
          have F82 := (Exa.keep A60 K66)
          have F83 := (Fld.keep (Fld.ext E60 F58_0) K66 (ninS n62 nin0))
          have F84 := (Fld.keep (Fld.ext E60 F58_1) K66 (ninS n62 nin0))
          have F86 := (Exa.keep (Exa.ext E60 F61) K66)
          refine cVirt X66 hx hZ hown (by rw [hml]; rfl) e66 (hw _ (List.mem_of_getElem? (i := 18) rfl)) (hw _ (List.mem_of_getElem? (i := 19) rfl)) (hw _ (List.mem_of_getElem? (i := 21) rfl)) (hw _ (List.mem_of_getElem? (i := 20) rfl)) (hw _ (List.mem_of_getElem? (i := 2) rfl)) (hw _ (List.mem_of_getElem? (i := 22) rfl)) (notFace_of_selects (args := #[]) (mvT hZ (hw _ (List.mem_of_getElem? (i := 21) rfl)))) a54 F86 [(.ref a60)] [] rfl (rm_eqE hw a54 a60 i0 i1 z52_0 z53_0 _ F82 F83 F84 F66_0 F66_1) (hb hby at_75) rfl (lenOf pd_8 rfl) (by decide) (by decide) (Nat.le_of_ble_eq_true rfl) (by decide) (by decide) ?_
          rintro v85 T85 h85 L85 X85 e85 ⟨rfl, N85, rfl⟩
          have N85a := Fr.app N66a N85
          show Ends p e below s _ _ _ T85 (mkF m 78 #[.val (.int i0), .val (.int i1), .val (.int i2), .val (.int i3), .val (.int i4), .val (.int z52_0), .val (.int z53_0), .val (.ref a54), .val (.ref a60), .val (.int (0 : Int32)), .unset] [(.int (own_eq i0 i1 z52_0 z53_0))])
          refine go (fun _ => XS.iload X85.here hx rfl (hb hby at_78) rfl) ?_
          show Ends p e below s _ _ _ T85 (mkF m 80 #[.val (.int i0), .val (.int i1), .val (.int i2), .val (.int i3), .val (.int i4), .val (.int z52_0), .val (.int z53_0), .val (.ref a54), .val (.ref a60), .val (.int (0 : Int32)), .unset] [(.int (0 : Int32)), (.int (own_eq i0 i1 z52_0 z53_0))])
          have q80 : (own_eq i0 i1 z52_0 z53_0) = (0 : Int32) := by simp [own_eq, c55_68, c61_69]
          refine go (fun _ => XS.icmpYes X85.here hx rfl (pc0 := 80) (pc' := 85) rfl (hb hby at_80) rfl (XT.ii_eq_t q80) (by decide) (by decide)) ?_
          show Ends p e below s _ _ _ T85 (mkF m 85 #[.val (.int i0), .val (.int i1), .val (.int i2), .val (.int i3), .val (.int i4), .val (.int z52_0), .val (.int z53_0), .val (.ref a54), .val (.ref a60), .val (.int (0 : Int32)), .unset] [])
          refine go (fun _ => XS.aload X85.here hx rfl (hb hby at_85) rfl rfl) ?_
          show Ends p e below s _ _ _ T85 (mkF m 87 #[.val (.int i0), .val (.int i1), .val (.int i2), .val (.int i3), .val (.int i4), .val (.int z52_0), .val (.int z53_0), .val (.ref a54), .val (.ref a60), .val (.int (0 : Int32)), .unset] [(.ref a60)])
          refine go (fun _ => XS.aload X85.here hx rfl (hb hby at_87) rfl rfl) ?_
          show Ends p e below s _ _ _ T85 (mkF m 89 #[.val (.int i0), .val (.int i1), .val (.int i2), .val (.int i3), .val (.int i4), .val (.int z52_0), .val (.int z53_0), .val (.ref a54), .val (.ref a60), .val (.int (0 : Int32)), .unset] [(.ref a54), (.ref a60)])
          refine cVirt X85 hx hZ hown (by rw [hml]; rfl) e85 (hw _ (List.mem_of_getElem? (i := 18) rfl)) (hw _ (List.mem_of_getElem? (i := 19) rfl)) (hw _ (List.mem_of_getElem? (i := 21) rfl)) (hw _ (List.mem_of_getElem? (i := 20) rfl)) (hw _ (List.mem_of_getElem? (i := 2) rfl)) (hw _ (List.mem_of_getElem? (i := 22) rfl)) (notFace_of_selects (args := #[]) (mvT hZ (hw _ (List.mem_of_getElem? (i := 21) rfl)))) a60 F82 [(.ref a54)] [] rfl (rm_eqE hw a60 a54 z52_0 z53_0 i0 i1 _ F86 F66_0 F66_1 F83 F84) (hb hby at_89) rfl (lenOf pd_8 rfl) (by decide) (by decide) (Nat.le_of_ble_eq_true rfl) (by decide) (by decide) ?_
          rintro v87 T87 h87 L87 X87 e87 ⟨rfl, N87, rfl⟩
          have N87a := Fr.app N85a N87
          show Ends p e below s _ _ _ T87 (mkF m 92 #[.val (.int i0), .val (.int i1), .val (.int i2), .val (.int i3), .val (.int i4), .val (.int z52_0), .val (.int z53_0), .val (.ref a54), .val (.ref a60), .val (.int (0 : Int32)), .unset] [(.int (own_eq z52_0 z53_0 i0 i1))])
          refine go (fun _ => XS.iload X87.here hx rfl (hb hby at_92) rfl) ?_
          show Ends p e below s _ _ _ T87 (mkF m 94 #[.val (.int i0), .val (.int i1), .val (.int i2), .val (.int i3), .val (.int i4), .val (.int z52_0), .val (.int z53_0), .val (.ref a54), .val (.ref a60), .val (.int (0 : Int32)), .unset] [(.int (0 : Int32)), (.int (own_eq z52_0 z53_0 i0 i1))])
          have q94 : (own_eq z52_0 z53_0 i0 i1) = (0 : Int32) := by rw [own_eqc]; simp [own_eq, c55_68, c61_69]
          refine go (fun _ => XS.icmpYes X87.here hx rfl (pc0 := 94) (pc' := 99) rfl (hb hby at_94) rfl (XT.ii_eq_t q94) (by decide) (by decide)) ?_
          show Ends p e below s _ _ _ T87 (mkF m 99 #[.val (.int i0), .val (.int i1), .val (.int i2), .val (.int i3), .val (.int i4), .val (.int z52_0), .val (.int z53_0), .val (.ref a54), .val (.ref a60), .val (.int (0 : Int32)), .unset] [])
          refine go (fun _ => XS.aload X87.here hx rfl (hb hby at_99) rfl rfl) ?_
          show Ends p e below s _ _ _ T87 (mkF m 101 #[.val (.int i0), .val (.int i1), .val (.int i2), .val (.int i3), .val (.int i4), .val (.int z52_0), .val (.int z53_0), .val (.ref a54), .val (.ref a60), .val (.int (0 : Int32)), .unset] [(.ref a54)])
          refine go (fun _ => XS.aload X87.here hx rfl (hb hby at_101) rfl rfl) ?_
          show Ends p e below s _ _ _ T87 (mkF m 103 #[.val (.int i0), .val (.int i1), .val (.int i2), .val (.int i3), .val (.int i4), .val (.int z52_0), .val (.int z53_0), .val (.ref a54), .val (.ref a60), .val (.int (0 : Int32)), .unset] [(.ref a54), (.ref a54)])
          refine cVirt X87 hx hZ hown (by rw [hml]; rfl) e87 (hw _ (List.mem_of_getElem? (i := 18) rfl)) (hw _ (List.mem_of_getElem? (i := 19) rfl)) (hw _ (List.mem_of_getElem? (i := 21) rfl)) (hw _ (List.mem_of_getElem? (i := 20) rfl)) (hw _ (List.mem_of_getElem? (i := 2) rfl)) (hw _ (List.mem_of_getElem? (i := 22) rfl)) (notFace_of_selects (args := #[]) (mvT hZ (hw _ (List.mem_of_getElem? (i := 21) rfl)))) a54 F86 [(.ref a54)] [] rfl (rm_eqE hw a54 a54 i0 i1 i0 i1 _ F86 F83 F84 F83 F84) (hb hby at_103) rfl (lenOf pd_8 rfl) (by decide) (by decide) (Nat.le_of_ble_eq_true rfl) (by decide) (by decide) ?_
          rintro v88 T88 h88 L88 X88 e88 ⟨rfl, N88, rfl⟩
          have N88a := Fr.app N87a N88
          show Ends p e below s _ _ _ T88 (mkF m 106 #[.val (.int i0), .val (.int i1), .val (.int i2), .val (.int i3), .val (.int i4), .val (.int z52_0), .val (.int z53_0), .val (.ref a54), .val (.ref a60), .val (.int (0 : Int32)), .unset] [(.int (own_eq i0 i1 i0 i1))])
          have q106 : ¬ (own_eq i0 i1 i0 i1) = (0 : Int32) := by rw [own_eqs]; decide
          refine go (fun _ => XS.ifYes X88.here hx rfl (pc0 := 106) (pc' := 111) rfl (hb hby at_106) rfl (XT.i0_ne_t q106) (by decide) (by decide)) ?_
          show Ends p e below s _ _ _ T88 (mkF m 111 #[.val (.int i0), .val (.int i1), .val (.int i2), .val (.int i3), .val (.int i4), .val (.int z52_0), .val (.int z53_0), .val (.ref a54), .val (.ref a60), .val (.int (0 : Int32)), .unset] [])
          refine go (fun _ => XS.aload X88.here hx rfl (hb hby at_111) rfl rfl) ?_
          show Ends p e below s _ _ _ T88 (mkF m 113 #[.val (.int i0), .val (.int i1), .val (.int i2), .val (.int i3), .val (.int i4), .val (.int z52_0), .val (.int z53_0), .val (.ref a54), .val (.ref a60), .val (.int (0 : Int32)), .unset] [(.ref a54)])
          refine go (fun _ => XS.aconstNull X88.here hx rfl (hb hby at_113)) ?_
          show Ends p e below s _ _ _ T88 (mkF m 114 #[.val (.int i0), .val (.int i1), .val (.int i2), .val (.int i3), .val (.int i4), .val (.int z52_0), .val (.int z53_0), .val (.ref a54), .val (.ref a60), .val (.int (0 : Int32)), .unset] [.null, (.ref a54)])
          refine cVirt X88 hx hZ hown (by rw [hml]; rfl) e88 (hw _ (List.mem_of_getElem? (i := 18) rfl)) (hw _ (List.mem_of_getElem? (i := 19) rfl)) (hw _ (List.mem_of_getElem? (i := 21) rfl)) (hw _ (List.mem_of_getElem? (i := 20) rfl)) (hw _ (List.mem_of_getElem? (i := 2) rfl)) (hw _ (List.mem_of_getElem? (i := 22) rfl)) (notFace_of_selects (args := #[]) (mvT hZ (hw _ (List.mem_of_getElem? (i := 21) rfl)))) a54 F86 [.null] [] rfl (rm_eqN hw a54 _) (hb hby at_114) rfl (lenOf pd_8 rfl) (by decide) (by decide) (Nat.le_of_ble_eq_true rfl) (by decide) (by decide) ?_
          rintro v89 T89 h89 L89 X89 e89 ⟨rfl, N89, rfl⟩
          have N89a := Fr.app N88a N89
          show Ends p e below s _ _ _ T89 (mkF m 117 #[.val (.int i0), .val (.int i1), .val (.int i2), .val (.int i3), .val (.int i4), .val (.int z52_0), .val (.int z53_0), .val (.ref a54), .val (.ref a60), .val (.int (0 : Int32)), .unset] [(.int (0 : Int32))])
          refine go (fun _ => XS.ifYes X89.here hx rfl (pc0 := 117) (pc' := 122) rfl (hb hby at_117) rfl (XT.i0_eq_t ((by decide) : (0 : Int32) = (0 : Int32))) (by decide) (by decide)) ?_
          show Ends p e below s _ _ _ T89 (mkF m 122 #[.val (.int i0), .val (.int i1), .val (.int i2), .val (.int i3), .val (.int i4), .val (.int z52_0), .val (.int z53_0), .val (.ref a54), .val (.ref a60), .val (.int (0 : Int32)), .unset] [])
          refine go (fun _ => XS.iloadN X89.here hx rfl (hb hby at_122) rfl) ?_
          show Ends p e below s _ _ _ T89 (mkF m 123 #[.val (.int i0), .val (.int i1), .val (.int i2), .val (.int i3), .val (.int i4), .val (.int z52_0), .val (.int z53_0), .val (.ref a54), .val (.ref a60), .val (.int (0 : Int32)), .unset] [(.int i0)])
          refine cStat X89 hx hZ hown (by rw [hml]; rfl) e89 (hw _ (List.mem_of_getElem? (i := 25) rfl)) (hw _ (List.mem_of_getElem? (i := 26) rfl)) (hw _ (List.mem_of_getElem? (i := 27) rfl)) (hw _ (List.mem_of_getElem? (i := 28) rfl)) [(.int i0)] [] rfl (rm_ivalueOf hw i0 aB cB _ O67 SH SB BX) (hb hby at_123) rfl (lenOf pd_9 rfl) (by decide) (by decide) (Nat.le_of_ble_eq_true rfl) (by decide) (by decide) ?_
          rintro v90 T90 h90 L90 X90 e90 ⟨b90, rfl, N90, K90, E90, F90_0⟩
          have N90a := Fr.app N89a N90
          have O91 : Ext Z.heap h90 := xk O67 K90 all0
          show Ends p e below s _ _ _ T90 (mkF m 126 #[.val (.int i0), .val (.int i1), .val (.int i2), .val (.int i3), .val (.int i4), .val (.int z52_0), .val (.int z53_0), .val (.ref a54), .val (.ref a60), .val (.int (0 : Int32)), .unset] [(.ref b90)])
          refine go (fun _ => XS.astore X90.here hx rfl (hb hby at_126) rfl rfl (l' := #[.val (.int i0), .val (.int i1), .val (.int i2), .val (.int i3), .val (.int i4), .val (.int z52_0), .val (.int z53_0), .val (.ref a54), .val (.ref a60), .val (.int (0 : Int32)), .val (.ref b90)]) rfl) ?_
          show Ends p e below s _ _ _ T90 (mkF m 128 #[.val (.int i0), .val (.int i1), .val (.int i2), .val (.int i3), .val (.int i4), .val (.int z52_0), .val (.int z53_0), .val (.ref a54), .val (.ref a60), .val (.int (0 : Int32)), .val (.ref b90)] [])
          refine go (fun _ => XS.aload X90.here hx rfl (hb hby at_128) rfl rfl) ?_
          show Ends p e below s _ _ _ T90 (mkF m 130 #[.val (.int i0), .val (.int i1), .val (.int i2), .val (.int i3), .val (.int i4), .val (.int z52_0), .val (.int z53_0), .val (.ref a54), .val (.ref a60), .val (.int (0 : Int32)), .val (.ref b90)] [(.ref a54)])
          refine go (fun _ => XS.aload X90.here hx rfl (hb hby at_130) rfl rfl) ?_
          show Ends p e below s _ _ _ T90 (mkF m 132 #[.val (.int i0), .val (.int i1), .val (.int i2), .val (.int i3), .val (.int i4), .val (.int z52_0), .val (.int z53_0), .val (.ref a54), .val (.ref a60), .val (.int (0 : Int32)), .val (.ref b90)] [(.ref b90), (.ref a54)])
          have F93 := (Exa.keep F86 K90)
          refine cVirt X90 hx hZ hown (by rw [hml]; rfl) e90 (hw _ (List.mem_of_getElem? (i := 18) rfl)) (hw _ (List.mem_of_getElem? (i := 19) rfl)) (hw _ (List.mem_of_getElem? (i := 21) rfl)) (hw _ (List.mem_of_getElem? (i := 20) rfl)) (hw _ (List.mem_of_getElem? (i := 2) rfl)) (hw _ (List.mem_of_getElem? (i := 22) rfl)) (notFace_of_selects (args := #[]) (mvT hZ (hw _ (List.mem_of_getElem? (i := 21) rfl)))) a54 F93 [(.ref b90)] [] rfl (rm_eqI hw a54 b90 _ E90) (hb hby at_132) rfl (lenOf pd_8 rfl) (by decide) (by decide) (Nat.le_of_ble_eq_true rfl) (by decide) (by decide) ?_
          rintro v92 T92 h92 L92 X92 e92 ⟨rfl, N92, rfl⟩
          have N92a := Fr.app N90a N92
          show Ends p e below s _ _ _ T92 (mkF m 135 #[.val (.int i0), .val (.int i1), .val (.int i2), .val (.int i3), .val (.int i4), .val (.int z52_0), .val (.int z53_0), .val (.ref a54), .val (.ref a60), .val (.int (0 : Int32)), .val (.ref b90)] [(.int (0 : Int32))])
          refine go (fun _ => XS.ifYes X92.here hx rfl (pc0 := 135) (pc' := 140) rfl (hb hby at_135) rfl (XT.i0_eq_t ((by decide) : (0 : Int32) = (0 : Int32))) (by decide) (by decide)) ?_
          show Ends p e below s _ _ _ T92 (mkF m 140 #[.val (.int i0), .val (.int i1), .val (.int i2), .val (.int i3), .val (.int i4), .val (.int z52_0), .val (.int z53_0), .val (.ref a54), .val (.ref a60), .val (.int (0 : Int32)), .val (.ref b90)] [])
          refine go (fun _ => XT.iconstV X92.here hx rfl (1 : Int32) (hb hby at_140) (by decide)) ?_
          show Ends p e below s _ _ _ T92 (mkF m 141 #[.val (.int i0), .val (.int i1), .val (.int i2), .val (.int i3), .val (.int i4), .val (.int z52_0), .val (.int z53_0), .val (.ref a54), .val (.ref a60), .val (.int (0 : Int32)), .val (.ref b90)] [(.int (1 : Int32))])
          exact endN X92 hx hlk hret (by simp) (hb hby at_141) e92 ⟨rfl, N92a⟩ (by decide) (by decide)
      · refine go (fun _ => XS.icmpYes X66.here hx rfl (pc0 := 55) (pc' := 68) rfl (hb hby at_55) rfl (XT.ii_ne_t c55_68) (by decide) (by decide)) ?_
        show Ends p e below s _ _ _ T66 (mkF m 68 #[.val (.int i0), .val (.int i1), .val (.int i2), .val (.int i3), .val (.int i4), .val (.int z52_0), .val (.int z53_0), .val (.ref a54), .val (.ref a60), .unset, .unset] [])
        refine go (fun _ => XT.iconstV X66.here hx rfl (0 : Int32) (hb hby at_68) (by decide)) ?_
        show Ends p e below s _ _ _ T66 (mkF m 69 #[.val (.int i0), .val (.int i1), .val (.int i2), .val (.int i3), .val (.int i4), .val (.int z52_0), .val (.int z53_0), .val (.ref a54), .val (.ref a60), .unset, .unset] [(.int (0 : Int32))])
        refine go (fun _ => XS.istore X66.here hx rfl (hb hby at_69) rfl (l' := #[.val (.int i0), .val (.int i1), .val (.int i2), .val (.int i3), .val (.int i4), .val (.int z52_0), .val (.int z53_0), .val (.ref a54), .val (.ref a60), .val (.int (0 : Int32)), .unset]) rfl) ?_
        show Ends p e below s _ _ _ T66 (mkF m 71 #[.val (.int i0), .val (.int i1), .val (.int i2), .val (.int i3), .val (.int i4), .val (.int z52_0), .val (.int z53_0), .val (.ref a54), .val (.ref a60), .val (.int (0 : Int32)), .unset] [])
        refine go (fun _ => XS.aload X66.here hx rfl (hb hby at_71) rfl rfl) ?_
        show Ends p e below s _ _ _ T66 (mkF m 73 #[.val (.int i0), .val (.int i1), .val (.int i2), .val (.int i3), .val (.int i4), .val (.int z52_0), .val (.int z53_0), .val (.ref a54), .val (.ref a60), .val (.int (0 : Int32)), .unset] [(.ref a54)])
        refine go (fun _ => XS.aload X66.here hx rfl (hb hby at_73) rfl rfl) ?_
        show Ends p e below s _ _ _ T66 (mkF m 75 #[.val (.int i0), .val (.int i1), .val (.int i2), .val (.int i3), .val (.int i4), .val (.int z52_0), .val (.int z53_0), .val (.ref a54), .val (.ref a60), .val (.int (0 : Int32)), .unset] [(.ref a60), (.ref a54)])
        have F94 := (Exa.keep A60 K66)
        have F95 := (Fld.keep (Fld.ext E60 F58_0) K66 (ninS n62 nin0))
        have F96 := (Fld.keep (Fld.ext E60 F58_1) K66 (ninS n62 nin0))
        have F98 := (Exa.keep (Exa.ext E60 F61) K66)
        refine cVirt X66 hx hZ hown (by rw [hml]; rfl) e66 (hw _ (List.mem_of_getElem? (i := 18) rfl)) (hw _ (List.mem_of_getElem? (i := 19) rfl)) (hw _ (List.mem_of_getElem? (i := 21) rfl)) (hw _ (List.mem_of_getElem? (i := 20) rfl)) (hw _ (List.mem_of_getElem? (i := 2) rfl)) (hw _ (List.mem_of_getElem? (i := 22) rfl)) (notFace_of_selects (args := #[]) (mvT hZ (hw _ (List.mem_of_getElem? (i := 21) rfl)))) a54 F98 [(.ref a60)] [] rfl (rm_eqE hw a54 a60 i0 i1 z52_0 z53_0 _ F94 F95 F96 F66_0 F66_1) (hb hby at_75) rfl (lenOf pd_8 rfl) (by decide) (by decide) (Nat.le_of_ble_eq_true rfl) (by decide) (by decide) ?_
        rintro v97 T97 h97 L97 X97 e97 ⟨rfl, N97, rfl⟩
        have N97a := Fr.app N66a N97
        show Ends p e below s _ _ _ T97 (mkF m 78 #[.val (.int i0), .val (.int i1), .val (.int i2), .val (.int i3), .val (.int i4), .val (.int z52_0), .val (.int z53_0), .val (.ref a54), .val (.ref a60), .val (.int (0 : Int32)), .unset] [(.int (own_eq i0 i1 z52_0 z53_0))])
        refine go (fun _ => XS.iload X97.here hx rfl (hb hby at_78) rfl) ?_
        show Ends p e below s _ _ _ T97 (mkF m 80 #[.val (.int i0), .val (.int i1), .val (.int i2), .val (.int i3), .val (.int i4), .val (.int z52_0), .val (.int z53_0), .val (.ref a54), .val (.ref a60), .val (.int (0 : Int32)), .unset] [(.int (0 : Int32)), (.int (own_eq i0 i1 z52_0 z53_0))])
        have q80 : (own_eq i0 i1 z52_0 z53_0) = (0 : Int32) := by simp [own_eq, c55_68]
        refine go (fun _ => XS.icmpYes X97.here hx rfl (pc0 := 80) (pc' := 85) rfl (hb hby at_80) rfl (XT.ii_eq_t q80) (by decide) (by decide)) ?_
        show Ends p e below s _ _ _ T97 (mkF m 85 #[.val (.int i0), .val (.int i1), .val (.int i2), .val (.int i3), .val (.int i4), .val (.int z52_0), .val (.int z53_0), .val (.ref a54), .val (.ref a60), .val (.int (0 : Int32)), .unset] [])
        refine go (fun _ => XS.aload X97.here hx rfl (hb hby at_85) rfl rfl) ?_
        show Ends p e below s _ _ _ T97 (mkF m 87 #[.val (.int i0), .val (.int i1), .val (.int i2), .val (.int i3), .val (.int i4), .val (.int z52_0), .val (.int z53_0), .val (.ref a54), .val (.ref a60), .val (.int (0 : Int32)), .unset] [(.ref a60)])
        refine go (fun _ => XS.aload X97.here hx rfl (hb hby at_87) rfl rfl) ?_
        show Ends p e below s _ _ _ T97 (mkF m 89 #[.val (.int i0), .val (.int i1), .val (.int i2), .val (.int i3), .val (.int i4), .val (.int z52_0), .val (.int z53_0), .val (.ref a54), .val (.ref a60), .val (.int (0 : Int32)), .unset] [(.ref a54), (.ref a60)])
        refine cVirt X97 hx hZ hown (by rw [hml]; rfl) e97 (hw _ (List.mem_of_getElem? (i := 18) rfl)) (hw _ (List.mem_of_getElem? (i := 19) rfl)) (hw _ (List.mem_of_getElem? (i := 21) rfl)) (hw _ (List.mem_of_getElem? (i := 20) rfl)) (hw _ (List.mem_of_getElem? (i := 2) rfl)) (hw _ (List.mem_of_getElem? (i := 22) rfl)) (notFace_of_selects (args := #[]) (mvT hZ (hw _ (List.mem_of_getElem? (i := 21) rfl)))) a60 F94 [(.ref a54)] [] rfl (rm_eqE hw a60 a54 z52_0 z53_0 i0 i1 _ F98 F66_0 F66_1 F95 F96) (hb hby at_89) rfl (lenOf pd_8 rfl) (by decide) (by decide) (Nat.le_of_ble_eq_true rfl) (by decide) (by decide) ?_
        rintro v99 T99 h99 L99 X99 e99 ⟨rfl, N99, rfl⟩
        have N99a := Fr.app N97a N99
        show Ends p e below s _ _ _ T99 (mkF m 92 #[.val (.int i0), .val (.int i1), .val (.int i2), .val (.int i3), .val (.int i4), .val (.int z52_0), .val (.int z53_0), .val (.ref a54), .val (.ref a60), .val (.int (0 : Int32)), .unset] [(.int (own_eq z52_0 z53_0 i0 i1))])
        refine go (fun _ => XS.iload X99.here hx rfl (hb hby at_92) rfl) ?_
        show Ends p e below s _ _ _ T99 (mkF m 94 #[.val (.int i0), .val (.int i1), .val (.int i2), .val (.int i3), .val (.int i4), .val (.int z52_0), .val (.int z53_0), .val (.ref a54), .val (.ref a60), .val (.int (0 : Int32)), .unset] [(.int (0 : Int32)), (.int (own_eq z52_0 z53_0 i0 i1))])
        have q94 : (own_eq z52_0 z53_0 i0 i1) = (0 : Int32) := by rw [own_eqc]; simp [own_eq, c55_68]
        refine go (fun _ => XS.icmpYes X99.here hx rfl (pc0 := 94) (pc' := 99) rfl (hb hby at_94) rfl (XT.ii_eq_t q94) (by decide) (by decide)) ?_
        show Ends p e below s _ _ _ T99 (mkF m 99 #[.val (.int i0), .val (.int i1), .val (.int i2), .val (.int i3), .val (.int i4), .val (.int z52_0), .val (.int z53_0), .val (.ref a54), .val (.ref a60), .val (.int (0 : Int32)), .unset] [])
        refine go (fun _ => XS.aload X99.here hx rfl (hb hby at_99) rfl rfl) ?_
        show Ends p e below s _ _ _ T99 (mkF m 101 #[.val (.int i0), .val (.int i1), .val (.int i2), .val (.int i3), .val (.int i4), .val (.int z52_0), .val (.int z53_0), .val (.ref a54), .val (.ref a60), .val (.int (0 : Int32)), .unset] [(.ref a54)])
        refine go (fun _ => XS.aload X99.here hx rfl (hb hby at_101) rfl rfl) ?_
        show Ends p e below s _ _ _ T99 (mkF m 103 #[.val (.int i0), .val (.int i1), .val (.int i2), .val (.int i3), .val (.int i4), .val (.int z52_0), .val (.int z53_0), .val (.ref a54), .val (.ref a60), .val (.int (0 : Int32)), .unset] [(.ref a54), (.ref a54)])
        refine cVirt X99 hx hZ hown (by rw [hml]; rfl) e99 (hw _ (List.mem_of_getElem? (i := 18) rfl)) (hw _ (List.mem_of_getElem? (i := 19) rfl)) (hw _ (List.mem_of_getElem? (i := 21) rfl)) (hw _ (List.mem_of_getElem? (i := 20) rfl)) (hw _ (List.mem_of_getElem? (i := 2) rfl)) (hw _ (List.mem_of_getElem? (i := 22) rfl)) (notFace_of_selects (args := #[]) (mvT hZ (hw _ (List.mem_of_getElem? (i := 21) rfl)))) a54 F98 [(.ref a54)] [] rfl (rm_eqE hw a54 a54 i0 i1 i0 i1 _ F98 F95 F96 F95 F96) (hb hby at_103) rfl (lenOf pd_8 rfl) (by decide) (by decide) (Nat.le_of_ble_eq_true rfl) (by decide) (by decide) ?_
        rintro v100 T100 h100 L100 X100 e100 ⟨rfl, N100, rfl⟩
        have N100a := Fr.app N99a N100
        show Ends p e below s _ _ _ T100 (mkF m 106 #[.val (.int i0), .val (.int i1), .val (.int i2), .val (.int i3), .val (.int i4), .val (.int z52_0), .val (.int z53_0), .val (.ref a54), .val (.ref a60), .val (.int (0 : Int32)), .unset] [(.int (own_eq i0 i1 i0 i1))])
        have q106 : ¬ (own_eq i0 i1 i0 i1) = (0 : Int32) := by rw [own_eqs]; decide
        refine go (fun _ => XS.ifYes X100.here hx rfl (pc0 := 106) (pc' := 111) rfl (hb hby at_106) rfl (XT.i0_ne_t q106) (by decide) (by decide)) ?_
        show Ends p e below s _ _ _ T100 (mkF m 111 #[.val (.int i0), .val (.int i1), .val (.int i2), .val (.int i3), .val (.int i4), .val (.int z52_0), .val (.int z53_0), .val (.ref a54), .val (.ref a60), .val (.int (0 : Int32)), .unset] [])
        refine go (fun _ => XS.aload X100.here hx rfl (hb hby at_111) rfl rfl) ?_
        show Ends p e below s _ _ _ T100 (mkF m 113 #[.val (.int i0), .val (.int i1), .val (.int i2), .val (.int i3), .val (.int i4), .val (.int z52_0), .val (.int z53_0), .val (.ref a54), .val (.ref a60), .val (.int (0 : Int32)), .unset] [(.ref a54)])
        refine go (fun _ => XS.aconstNull X100.here hx rfl (hb hby at_113)) ?_
        show Ends p e below s _ _ _ T100 (mkF m 114 #[.val (.int i0), .val (.int i1), .val (.int i2), .val (.int i3), .val (.int i4), .val (.int z52_0), .val (.int z53_0), .val (.ref a54), .val (.ref a60), .val (.int (0 : Int32)), .unset] [.null, (.ref a54)])
        refine cVirt X100 hx hZ hown (by rw [hml]; rfl) e100 (hw _ (List.mem_of_getElem? (i := 18) rfl)) (hw _ (List.mem_of_getElem? (i := 19) rfl)) (hw _ (List.mem_of_getElem? (i := 21) rfl)) (hw _ (List.mem_of_getElem? (i := 20) rfl)) (hw _ (List.mem_of_getElem? (i := 2) rfl)) (hw _ (List.mem_of_getElem? (i := 22) rfl)) (notFace_of_selects (args := #[]) (mvT hZ (hw _ (List.mem_of_getElem? (i := 21) rfl)))) a54 F98 [.null] [] rfl (rm_eqN hw a54 _) (hb hby at_114) rfl (lenOf pd_8 rfl) (by decide) (by decide) (Nat.le_of_ble_eq_true rfl) (by decide) (by decide) ?_
        rintro v101 T101 h101 L101 X101 e101 ⟨rfl, N101, rfl⟩
        have N101a := Fr.app N100a N101
        show Ends p e below s _ _ _ T101 (mkF m 117 #[.val (.int i0), .val (.int i1), .val (.int i2), .val (.int i3), .val (.int i4), .val (.int z52_0), .val (.int z53_0), .val (.ref a54), .val (.ref a60), .val (.int (0 : Int32)), .unset] [(.int (0 : Int32))])
        refine go (fun _ => XS.ifYes X101.here hx rfl (pc0 := 117) (pc' := 122) rfl (hb hby at_117) rfl (XT.i0_eq_t ((by decide) : (0 : Int32) = (0 : Int32))) (by decide) (by decide)) ?_
        show Ends p e below s _ _ _ T101 (mkF m 122 #[.val (.int i0), .val (.int i1), .val (.int i2), .val (.int i3), .val (.int i4), .val (.int z52_0), .val (.int z53_0), .val (.ref a54), .val (.ref a60), .val (.int (0 : Int32)), .unset] [])
        refine go (fun _ => XS.iloadN X101.here hx rfl (hb hby at_122) rfl) ?_
        show Ends p e below s _ _ _ T101 (mkF m 123 #[.val (.int i0), .val (.int i1), .val (.int i2), .val (.int i3), .val (.int i4), .val (.int z52_0), .val (.int z53_0), .val (.ref a54), .val (.ref a60), .val (.int (0 : Int32)), .unset] [(.int i0)])
        refine cStat X101 hx hZ hown (by rw [hml]; rfl) e101 (hw _ (List.mem_of_getElem? (i := 25) rfl)) (hw _ (List.mem_of_getElem? (i := 26) rfl)) (hw _ (List.mem_of_getElem? (i := 27) rfl)) (hw _ (List.mem_of_getElem? (i := 28) rfl)) [(.int i0)] [] rfl (rm_ivalueOf hw i0 aB cB _ O67 SH SB BX) (hb hby at_123) rfl (lenOf pd_9 rfl) (by decide) (by decide) (Nat.le_of_ble_eq_true rfl) (by decide) (by decide) ?_
        rintro v102 T102 h102 L102 X102 e102 ⟨b102, rfl, N102, K102, E102, F102_0⟩
        have N102a := Fr.app N101a N102
        have O103 : Ext Z.heap h102 := xk O67 K102 all0
        show Ends p e below s _ _ _ T102 (mkF m 126 #[.val (.int i0), .val (.int i1), .val (.int i2), .val (.int i3), .val (.int i4), .val (.int z52_0), .val (.int z53_0), .val (.ref a54), .val (.ref a60), .val (.int (0 : Int32)), .unset] [(.ref b102)])
        refine go (fun _ => XS.astore X102.here hx rfl (hb hby at_126) rfl rfl (l' := #[.val (.int i0), .val (.int i1), .val (.int i2), .val (.int i3), .val (.int i4), .val (.int z52_0), .val (.int z53_0), .val (.ref a54), .val (.ref a60), .val (.int (0 : Int32)), .val (.ref b102)]) rfl) ?_
        show Ends p e below s _ _ _ T102 (mkF m 128 #[.val (.int i0), .val (.int i1), .val (.int i2), .val (.int i3), .val (.int i4), .val (.int z52_0), .val (.int z53_0), .val (.ref a54), .val (.ref a60), .val (.int (0 : Int32)), .val (.ref b102)] [])
        refine go (fun _ => XS.aload X102.here hx rfl (hb hby at_128) rfl rfl) ?_
        show Ends p e below s _ _ _ T102 (mkF m 130 #[.val (.int i0), .val (.int i1), .val (.int i2), .val (.int i3), .val (.int i4), .val (.int z52_0), .val (.int z53_0), .val (.ref a54), .val (.ref a60), .val (.int (0 : Int32)), .val (.ref b102)] [(.ref a54)])
        refine go (fun _ => XS.aload X102.here hx rfl (hb hby at_130) rfl rfl) ?_
        show Ends p e below s _ _ _ T102 (mkF m 132 #[.val (.int i0), .val (.int i1), .val (.int i2), .val (.int i3), .val (.int i4), .val (.int z52_0), .val (.int z53_0), .val (.ref a54), .val (.ref a60), .val (.int (0 : Int32)), .val (.ref b102)] [(.ref b102), (.ref a54)])
        have F105 := (Exa.keep F98 K102)
        refine cVirt X102 hx hZ hown (by rw [hml]; rfl) e102 (hw _ (List.mem_of_getElem? (i := 18) rfl)) (hw _ (List.mem_of_getElem? (i := 19) rfl)) (hw _ (List.mem_of_getElem? (i := 21) rfl)) (hw _ (List.mem_of_getElem? (i := 20) rfl)) (hw _ (List.mem_of_getElem? (i := 2) rfl)) (hw _ (List.mem_of_getElem? (i := 22) rfl)) (notFace_of_selects (args := #[]) (mvT hZ (hw _ (List.mem_of_getElem? (i := 21) rfl)))) a54 F105 [(.ref b102)] [] rfl (rm_eqI hw a54 b102 _ E102) (hb hby at_132) rfl (lenOf pd_8 rfl) (by decide) (by decide) (Nat.le_of_ble_eq_true rfl) (by decide) (by decide) ?_
        rintro v104 T104 h104 L104 X104 e104 ⟨rfl, N104, rfl⟩
        have N104a := Fr.app N102a N104
        show Ends p e below s _ _ _ T104 (mkF m 135 #[.val (.int i0), .val (.int i1), .val (.int i2), .val (.int i3), .val (.int i4), .val (.int z52_0), .val (.int z53_0), .val (.ref a54), .val (.ref a60), .val (.int (0 : Int32)), .val (.ref b102)] [(.int (0 : Int32))])
        refine go (fun _ => XS.ifYes X104.here hx rfl (pc0 := 135) (pc' := 140) rfl (hb hby at_135) rfl (XT.i0_eq_t ((by decide) : (0 : Int32) = (0 : Int32))) (by decide) (by decide)) ?_
        show Ends p e below s _ _ _ T104 (mkF m 140 #[.val (.int i0), .val (.int i1), .val (.int i2), .val (.int i3), .val (.int i4), .val (.int z52_0), .val (.int z53_0), .val (.ref a54), .val (.ref a60), .val (.int (0 : Int32)), .val (.ref b102)] [])
        refine go (fun _ => XT.iconstV X104.here hx rfl (1 : Int32) (hb hby at_140) (by decide)) ?_
        show Ends p e below s _ _ _ T104 (mkF m 141 #[.val (.int i0), .val (.int i1), .val (.int i2), .val (.int i3), .val (.int i4), .val (.int z52_0), .val (.int z53_0), .val (.ref a54), .val (.ref a60), .val (.int (0 : Int32)), .val (.ref b102)] [(.int (1 : Int32))])
        exact endN X104 hx hlk hret (by simp) (hb hby at_141) e104 ⟨rfl, N104a⟩ (by decide) (by decide)
    by_cases c18_106 : (i4 &&& (2 : Int32)) = (0 : Int32)
    · refine go (fun _ => XS.ifYes X0.here hx rfl (pc0 := 18) (pc' := 25) rfl (hb hby at_18) rfl (XT.i0_eq_t c18_106) (by decide) (by decide)) ?_
      show Ends p e below s _ _ _ T0 (mkF m 25 #[.val (.int i0), .val (.int i1), .val (.int i2), .val (.int i3), .val (.int i4), .val (.int z52_0), .unset, .unset, .unset, .unset, .unset] [])
      refine go (fun _ => XS.iloadN X0.here hx rfl (hb hby at_25) rfl) ?_
      show Ends p e below s _ _ _ T0 (mkF m 26 #[.val (.int i0), .val (.int i1), .val (.int i2), .val (.int i3), .val (.int i4), .val (.int z52_0), .unset, .unset, .unset, .unset, .unset] [(.int i3)])
      exact J26 _
    · refine go (fun _ => XS.ifNo X0.here hx rfl (hb hby at_18) rfl (XT.i0_eq_f c18_106)) ?_
      show Ends p e below s _ _ _ T0 (mkF m 21 #[.val (.int i0), .val (.int i1), .val (.int i2), .val (.int i3), .val (.int i4), .val (.int z52_0), .unset, .unset, .unset, .unset, .unset] [])
      refine go (fun _ => XS.iloadN X0.here hx rfl (hb hby at_21) rfl) ?_
      show Ends p e below s _ _ _ T0 (mkF m 22 #[.val (.int i0), .val (.int i1), .val (.int i2), .val (.int i3), .val (.int i4), .val (.int z52_0), .unset, .unset, .unset, .unset, .unset] [(.int i1)])
      refine go (fun _ => XS.goto X0.here hx rfl (pc0 := 22) (pc' := 26) rfl (hb hby at_22) (by decide) (by decide)) ?_
      show Ends p e below s _ _ _ T0 (mkF m 26 #[.val (.int i0), .val (.int i1), .val (.int i2), .val (.int i3), .val (.int i4), .val (.int z52_0), .unset, .unset, .unset, .unset, .unset] [(.int i1)])
      exact J26 _
  by_cases c4_107 : (i4 &&& (1 : Int32)) = (0 : Int32)
  · refine go (fun _ => XS.ifYes X0.here hx rfl (pc0 := 4) (pc' := 11) rfl (hb hby at_4) rfl (XT.i0_eq_t c4_107) (by decide) (by decide)) ?_
    show Ends p e below s _ _ _ T0 (mkF m 11 #[.val (.int i0), .val (.int i1), .val (.int i2), .val (.int i3), .val (.int i4), .unset, .unset, .unset, .unset, .unset, .unset] [])
    refine go (fun _ => XS.iloadN X0.here hx rfl (hb hby at_11) rfl) ?_
    show Ends p e below s _ _ _ T0 (mkF m 12 #[.val (.int i0), .val (.int i1), .val (.int i2), .val (.int i3), .val (.int i4), .unset, .unset, .unset, .unset, .unset, .unset] [(.int i2)])
    exact J12 _
  · refine go (fun _ => XS.ifNo X0.here hx rfl (hb hby at_4) rfl (XT.i0_eq_f c4_107)) ?_
    show Ends p e below s _ _ _ T0 (mkF m 7 #[.val (.int i0), .val (.int i1), .val (.int i2), .val (.int i3), .val (.int i4), .unset, .unset, .unset, .unset, .unset, .unset] [])
    refine go (fun _ => XS.iloadN X0.here hx rfl (hb hby at_7) rfl) ?_
    show Ends p e below s _ _ _ T0 (mkF m 8 #[.val (.int i0), .val (.int i1), .val (.int i2), .val (.int i3), .val (.int i4), .unset, .unset, .unset, .unset, .unset, .unset] [(.int i0)])
    refine go (fun _ => XS.goto X0.here hx rfl (pc0 := 8) (pc' := 12) rfl (hb hby at_8) (by decide) (by decide)) ?_
    show Ends p e below s _ _ _ T0 (mkF m 12 #[.val (.int i0), .val (.int i1), .val (.int i2), .val (.int i3), .val (.int i4), .unset, .unset, .unset, .unset, .unset, .unset] [(.int i0)])
    exact J12 _
set_option maxRecDepth 65536 in
set_option maxHeartbeats 40000000 in
theorem comes_1 {Post : Tables → Env → Array Value → State → Outcome → State → Prop} (hpost : ∀ tb e args s v u, (limb_1_1.after args s (.returned v) u = true ∧ limb_1_2.after args s (.returned v) u = true ∧ True) → FrameEnd s (.returned v) u (Jvm.fieldLocs frame_1_writes args s ++ Jvm.arrayLocs frame_1_arrays args s ++ Jvm.staticLocs frame_1_statics s) 16 128 → Post tb e args s (.returned v) u) :
    ArmFor flags0 classFile x code maxLocals ret World_1 tables_1 room_1 Calls_1 rest_1 Pre_1 Post := by
  intro l hfl _ _ p e ha hc hk s m args below hf hA hF happ hP
  obtain ⟨hcalls, hrest, hpre⟩ := hP
  obtain ⟨-, -, -, hnamed, -, -, -, hat⟩ := (Spec.applies_iff hf).mp happ
  obtain ⟨hg, hn⟩ := and_e (Cond.before_iff.mp (show (Jvm.Cond.and given_1 narrow_1).before args s = true from hpre))
  obtain ⟨gv0, gvtr⟩ := and_e hg
  obtain ⟨gv1, gvtrr⟩ := and_e gvtr
  obtain ⟨gv2, gvtrrr⟩ := and_e gvtrr
  obtain ⟨gv3, gvtrrrr⟩ := and_e gvtrrr
  obtain ⟨gv4, gv5⟩ := and_e gvtrrrr
  obtain ⟨w0, w1, w2, w3, w4, rfl⟩ : ∃ w0 w1 w2 w3 w4 : Value, args = #[w0, w1, w2, w3, w4] := by
    have hs : args.size = 5 := by simpa [Cond.value, given_1] using gv0
    obtain ⟨L⟩ := args
    match L, hs with
    | [w0, w1, w2, w3, w4], _ => exact ⟨w0, w1, w2, w3, w4, rfl⟩
  have hw := fun d (hd : d ∈ tables_1) => atoms_spec (ws := Jvm.Cond.code x code maxLocals ret :: tables_1) hat d (List.mem_cons_of_mem _ hd)
  have hfit : Fit s := fun {y c} hc i hi => by
    obtain ⟨ha, rfl⟩ := Array.getElem?_eq_some_iff.mp hc
    have q := List.all_eq_true.mp ((Array.all_eq_true_iff_forall_mem.mp hF) _ (Array.getElem_mem ha)) i (List.mem_range.mpr hi)
    simpa [Array.getElem?_eq_getElem hi] using q
  obtain ⟨hsets, hown0⟩ := atoms_of _ (rest_1_c_eq ▸ (show rest_1_c.before _ s = true from hrest))
  obtain ⟨i0, ei0⟩ := is_v gv1
  obtain rfl : w0 = (.int i0) := Option.some.inj ei0
  obtain ⟨i1, ei1⟩ := is_v gv2
  obtain rfl : w1 = (.int i1) := Option.some.inj ei1
  obtain ⟨i2, ei2⟩ := is_v gv3
  obtain rfl : w2 = (.int i2) := Option.some.inj ei2
  obtain ⟨i3, ei3⟩ := is_v gv4
  obtain rfl : w3 = (.int i3) := Option.some.inj ei3
  obtain ⟨i4, ei4⟩ := is_v gv5
  obtain rfl : w4 = (.int i4) := Option.some.inj ei4
  have wI1 := Cond.before_iff.mp (hsets _ (List.mem_of_getElem? (i := 3) rfl))
  have SH := Sta.start (eqv_i (Term.int_eval (127 : Int32)) wI1) (Or.inl (hsets _ (List.mem_of_getElem? (i := 1) rfl)))
  have wI2 := Cond.before_iff.mp (hsets _ (List.mem_of_getElem? (i := 4) rfl))
  obtain ⟨aB, evB⟩ := arr_v wI2
  have SB := Sta.start evB (Or.inr ⟨(hw _ (List.mem_of_getElem? (i := 30) rfl)), (hsets _ (List.mem_of_getElem? (i := 2) rfl))⟩)
  obtain ⟨cB, AB⟩ := Arr.start evB wI2
  have wI3 := Cond.before_iff.mp (hsets _ (List.mem_of_getElem? (i := 6) rfl))
  have lB := own_len evB AB (eqv_i (Term.int_eval (256 : Int32)) wI3)
  have wI4 := Cond.before_iff.mp (hsets _ (List.mem_of_getElem? (i := 7) rfl))
  have BX : Bxs s aB cB "java/lang/Integer" "I" (256 : Int32) (fun j => .int (j - 128)) := Bxs.start (fun _ => evB) AB lB.1 lB.2 (by decide) wI4 (fun X j hj hq => eqv_i (own_idx hj) hq)
  obtain ⟨n, o, h1, h2, h3, _, L, rfl, ⟨rfl, N⟩, hq⟩ := (rm_law (l := l) hw i0 i1 i2 i3 i4 aB cB s.heap ⟨Nat.le_refl _, fun _ _ q => q⟩ SH SB BX) tables_1 p e ha hc hk s m _ below hf ((Spec.applies_iff_loose hf).mp happ).1 ⟨rfl, State.Warmed39.refl s, rfl⟩ trivial
  refine ⟨n, _, h1, h2, h3, hpost _ _ _ _ _ _ ⟨Cond.after_iff.mpr rfl, Cond.after_iff.mpr (eq_i res_at (Term.int_eval (1)) rfl), trivial⟩ ⟨hq.1, hq.2.1, (hq.2.2.sift fun y hy => Or.inr (N y hy)).mono (by decide) (by decide)⟩⟩
theorem main_1_1 : Claimed_1_1 := comes_1 fun _ _ _ _ _ _ h hF => ⟨h.1, hF⟩
theorem main_1_2 : Claimed_1_2 := comes_1 fun _ _ _ _ _ _ h hF => ⟨h.2.1, hF⟩
end Jvm.Pilot.@@N@@
namespace Jvm.Pilot.@@N@@
open Jvm Jvm.ClassFile Sem Op Lib Jvm.Free Jvm.Stand Jvm.Pilot.@@N@@.Jvm.D
/-! MADE BY PROGRAM (witnessworld.py) out of the Statement's table words and the real class files: 17 classes; the members and pool entries that the words name. The judged class is class 1, her method 1. -/
namespace start1
open Jvm.ClassFile
def u (s : String) : CpInfo := .utf8 (stringToUtf16 s)
/-- a pool by its gaps: so many unusable entries, then the entry; so many at the end -/
def gap : Nat → List CpInfo → List CpInfo
  | 0, r => r
  | n + 1, r => .unusable :: gap n r
def poolList (es : List (Nat × CpInfo)) (last : Nat) : List CpInfo := es.foldr (fun e r => gap e.1 (e.2 :: r)) (gap last [])
def pool (es : List (Nat × CpInfo)) (last : Nat) : Array CpInfo := ⟨poolList es last⟩
def fileOf (pool : Array CpInfo) (this : Nat) (attrs : Array Attribute := #[]) (ms : Array MethodInfo := #[]) (fl : Nat := 33) (sup : Nat := 0) (ifs : Array Nat := #[]) (fds : Array FieldInfo := #[]) : ClassFile where
  minorVersion := 0
  majorVersion := 65
  constantPool := pool
  accessFlags := fl
  thisClass := this
  superClass := sup
  interfaces := ifs
  fields := fds
  methods := ms
  attributes := attrs
def plain (name : String) (sup : Option ClassId) : Class where
  name := name
  kind := .ordinary
  loader := none
  accessFlags := 33
  super := sup
  interfaces := #[]
  cf := none
  fields := #[]
  methods := #[]
  instanceTypes := #[]
  staticTypes := #[]
  resolved := #[]
  callSites := []
  init := .initialized
  statics := none
  mirror := none

def pool0 : Array CpInfo := pool [(5, u "<init>"), (0, u "()V"), (1, .class_ 10), (1, u "java/lang/Object")] 113

def k0c0 : Code := { maxStack := 0, maxLocals := 1, code := object_method_1_code, exceptionTable := #[], attributes := #[] }
def k0m0 : Method := { name := "<init>", desc := "()V", sig := { parameters := [], returnType := none }, accessFlags := 1, code := some k0c0 }
/-- java/lang/Object -/
def k0 : Class := { plain "java/lang/Object" none with
  accessFlags := 33
  interfaces := #[]
  cf := some (fileOf pool0 8 #[] #[{ accessFlags := 1, nameIndex := 5, descriptorIndex := 6, attributes := #[] }] 33 0 #[] #[])
  fields := #[]
  methods := #[k0m0]
  instanceTypes := #[]
  staticTypes := #[]
  resolved := Array.replicate 124 none
  statics := none }

def pool1 : Array CpInfo := pool [(2, .class_ 4), (1, u "java/lang/Object"), (0, u "<init>"), (0, u "()V"), (0, .class_ 8), (0, u "com/example/libtbox/libtbox/core/Edge"), (0, .methodref 7 10), (0, .nameAndType 5 11), (0, u "(II)V"), (0, .methodref 7 13), (0, .nameAndType 14 15), (0, u "equals"), (0, u "(Ljava/lang/Object;)Z"), (0, .methodref 17 18), (0, .class_ 19), (0, .nameAndType 20 21), (0, u "java/lang/Integer"), (0, u "valueOf"), (0, u "(I)Ljava/lang/Integer;"), (0, .class_ 23), (0, u "com/example/libtbox/libtbox/core/EdgeEqualsPinLaw"), (2, u "law"), (0, u "(IIIII)Z")] 3

def k1m0 : Method := { name := "<init>", desc := "()V", sig := { parameters := [], returnType := none }, accessFlags := 1, code := none }
def k1c1 : Code := { maxStack := 4, maxLocals := 11, code := code, exceptionTable := #[], attributes := #[] }
def k1m1 : Method := { name := "law", desc := "(IIIII)Z", sig := { parameters := [.int, .int, .int, .int, .int], returnType := some .boolean }, accessFlags := 9, code := some k1c1 }
/-- com/example/libtbox/libtbox/core/EdgeEqualsPinLaw -/
def k1 : Class := { plain "com/example/libtbox/libtbox/core/EdgeEqualsPinLaw" (some 0) with
  accessFlags := 49
  interfaces := #[]
  cf := some (fileOf pool1 22 #[] #[{ accessFlags := 1, nameIndex := 5, descriptorIndex := 6, attributes := #[] }, { accessFlags := 9, nameIndex := 26, descriptorIndex := 27, attributes := #[] }] 49 2 #[] #[])
  fields := #[]
  methods := #[k1m0, k1m1]
  instanceTypes := #[]
  staticTypes := #[]
  resolved := Array.replicate 31 none
  statics := none }

def pool2 : Array CpInfo := pool [(1, .methodref 2 3), (0, .class_ 4), (0, .nameAndType 5 6), (0, u "java/lang/Object"), (0, u "<init>"), (0, u "()V"), (0, .class_ 8), (0, u "java/lang/Record")] 13

def k2c0 : Code := { maxStack := 1, maxLocals := 1, code := jdk_30_method_1_code, exceptionTable := #[], attributes := #[] }
def k2m0 : Method := { name := "<init>", desc := "()V", sig := { parameters := [], returnType := none }, accessFlags := 4, code := some k2c0 }
/-- java/lang/Record -/
def k2 : Class := { plain "java/lang/Record" (some 0) with
  accessFlags := 1057
  interfaces := #[]
  cf := some (fileOf pool2 7 #[] #[{ accessFlags := 4, nameIndex := 5, descriptorIndex := 6, attributes := #[] }] 1057 2 #[] #[])
  fields := #[]
  methods := #[k2m0]
  instanceTypes := #[]
  staticTypes := #[]
  resolved := Array.replicate 22 none
  statics := none }

def pool3 : Array CpInfo := pool [(1, .methodref 2 3), (0, .class_ 4), (0, .nameAndType 5 6), (0, u "java/lang/Record"), (0, u "<init>"), (0, u "()V"), (0, .fieldref 8 9), (0, .class_ 10), (0, .nameAndType 11 12), (0, u "com/example/libtbox/libtbox/core/Edge"), (0, u "role"), (0, u "I"), (0, .fieldref 8 14), (0, .nameAndType 15 12), (0, u "node"), (9, u "(II)V"), (3, u "equals"), (0, u "(Ljava/lang/Object;)Z")] 30

def k3c0 : Code := { maxStack := 2, maxLocals := 3, code := prog_25_method_1_code, exceptionTable := #[], attributes := #[] }
def k3m0 : Method := { name := "<init>", desc := "(II)V", sig := { parameters := [.int, .int], returnType := none }, accessFlags := 0, code := some k3c0 }
def k3c1 : Code := { maxStack := 2, maxLocals := 3, code := prog_25_method_2_code, exceptionTable := #[], attributes := #[] }
def k3m1 : Method := { name := "equals", desc := "(Ljava/lang/Object;)Z", sig := { parameters := [(.object "java/lang/Object")], returnType := some .boolean }, accessFlags := 1, code := some k3c1 }
/-- com/example/libtbox/libtbox/core/Edge -/
def k3 : Class := { plain "com/example/libtbox/libtbox/core/Edge" (some 2) with
  accessFlags := 48
  interfaces := #[]
  cf := some (fileOf pool3 8 #[] #[{ accessFlags := 0, nameIndex := 5, descriptorIndex := 25, attributes := #[] }, { accessFlags := 1, nameIndex := 29, descriptorIndex := 30, attributes := #[] }] 48 2 #[] #[{ accessFlags := 18, nameIndex := 11, descriptorIndex := 12, attributes := #[] }, { accessFlags := 18, nameIndex := 15, descriptorIndex := 12, attributes := #[] }])
  fields := #[{ name := "role", type := .int, accessFlags := 18, slot := 0, constantValue := 0 }, { name := "node", type := .int, accessFlags := 18, slot := 1, constantValue := 0 }]
  methods := #[k3m0, k3m1]
  instanceTypes := #[.int, .int]
  staticTypes := #[]
  resolved := Array.replicate 61 none
  statics := none }

def pool4 : Array CpInfo := pool [(1, .class_ 2), (0, u "java/io/Serializable"), (0, .class_ 4), (0, u "java/lang/Object")] 2

/-- java/io/Serializable -/
def k4 : Class := { plain "java/io/Serializable" (some 0) with
  accessFlags := 1537
  interfaces := #[]
  cf := some (fileOf pool4 1 #[] #[] 1537 3 #[] #[])
  fields := #[]
  methods := #[]
  instanceTypes := #[]
  staticTypes := #[]
  resolved := Array.replicate 7 none
  statics := none }

def pool5 : Array CpInfo := pool [(1, .methodref 2 3), (0, .class_ 4), (0, .nameAndType 5 6), (0, u "java/lang/Object"), (0, u "<init>"), (0, u "()V"), (1, .class_ 10), (1, u "java/lang/Number"), (2, .class_ 14), (0, u "java/io/Serializable"), (0, u "serialVersionUID"), (0, u "J")] 20

def k5c0 : Code := { maxStack := 1, maxLocals := 1, code := jdk_18_method_1_code, exceptionTable := #[], attributes := #[] }
def k5m0 : Method := { name := "<init>", desc := "()V", sig := { parameters := [], returnType := none }, accessFlags := 1, code := some k5c0 }
/-- java/lang/Number -/
def k5 : Class := { plain "java/lang/Number" (some 0) with
  accessFlags := 1057
  interfaces := #[4]
  cf := some (fileOf pool5 8 #[] #[{ accessFlags := 1, nameIndex := 5, descriptorIndex := 6, attributes := #[] }] 1057 2 #[13] #[{ accessFlags := 26, nameIndex := 15, descriptorIndex := 16, attributes := #[] }])
  fields := #[{ name := "serialVersionUID", type := .long, accessFlags := 26, slot := 0, constantValue := 0 }]
  methods := #[k5m0]
  instanceTypes := #[]
  staticTypes := #[.long]
  resolved := Array.replicate 37 none
  statics := none }

def pool6 : Array CpInfo := pool [(1, .class_ 2), (0, u "java/lang/Comparable"), (0, .class_ 4), (0, u "java/lang/Object")] 7

/-- java/lang/Comparable -/
def k6 : Class := { plain "java/lang/Comparable" (some 0) with
  accessFlags := 1537
  interfaces := #[]
  cf := some (fileOf pool6 1 #[] #[] 1537 3 #[] #[])
  fields := #[]
  methods := #[]
  instanceTypes := #[]
  staticTypes := #[]
  resolved := Array.replicate 12 none
  statics := none }

def pool7 : Array CpInfo := pool [(1, .class_ 2), (0, u "java/lang/constant/Constable"), (0, .class_ 4), (0, u "java/lang/Object")] 6

/-- java/lang/constant/Constable -/
def k7 : Class := { plain "java/lang/constant/Constable" (some 0) with
  accessFlags := 1537
  interfaces := #[]
  cf := some (fileOf pool7 1 #[] #[] 1537 3 #[] #[])
  fields := #[]
  methods := #[]
  instanceTypes := #[]
  staticTypes := #[]
  resolved := Array.replicate 11 none
  statics := none }

def pool8 : Array CpInfo := pool [(1, .class_ 2), (0, u "java/lang/constant/ConstantDesc"), (0, .class_ 4), (0, u "java/lang/Object")] 32

/-- java/lang/constant/ConstantDesc -/
def k8 : Class := { plain "java/lang/constant/ConstantDesc" (some 0) with
  accessFlags := 1537
  interfaces := #[]
  cf := some (fileOf pool8 1 #[] #[] 1537 3 #[] #[])
  fields := #[]
  methods := #[]
  instanceTypes := #[]
  staticTypes := #[]
  resolved := Array.replicate 37 none
  statics := none }

def pool9 : Array CpInfo := pool [(1, .class_ 2), (0, u "java/lang/Integer"), (16, u "digits"), (0, u "[C"), (46, u "<init>"), (17, u "DigitOnes"), (0, u "[B"), (2, u "DigitTens"), (10, .nameAndType 67 101), (0, u "()V"), (85, u "valueOf"), (0, u "(I)Ljava/lang/Integer;"), (0, .class_ 190), (0, u "java/lang/Integer$IntegerCache"), (0, .fieldref 189 192), (0, .nameAndType 193 194), (0, u "high"), (0, u "I"), (0, .fieldref 189 196), (0, .nameAndType 197 198), (0, u "cache"), (0, u "[Ljava/lang/Integer;"), (0, .methodref 1 200), (0, .nameAndType 67 201), (0, u "(I)V"), (0, .methodref 203 100), (0, .class_ 204), (0, u "java/lang/Number"), (0, .fieldref 1 206), (0, .nameAndType 207 194), (0, u "value"), (94, u "TYPE"), (0, u "Ljava/lang/Class;"), (0, .class_ 305), (0, u "java/lang/Comparable"), (0, .class_ 307), (0, u "java/lang/constant/Constable"), (0, .class_ 309), (0, u "java/lang/constant/ConstantDesc"), (0, u "MIN_VALUE"), (1, u "MAX_VALUE"), (3, u "SIZE"), (1, u "BYTES"), (1, u "serialVersionUID"), (0, u "J")] 131

def k9c0 : Code := { maxStack := 3, maxLocals := 1, code := jdk_33_method_22_code, exceptionTable := #[], attributes := #[] }
def k9m0 : Method := { name := "valueOf", desc := "(I)Ljava/lang/Integer;", sig := { parameters := [.int], returnType := some (.object "java/lang/Integer") }, accessFlags := 9, code := some k9c0 }
def k9c1 : Code := { maxStack := 2, maxLocals := 2, code := jdk_33_method_23_code, exceptionTable := #[], attributes := #[] }
def k9m1 : Method := { name := "<init>", desc := "(I)V", sig := { parameters := [.int], returnType := none }, accessFlags := 1, code := some k9c1 }
/-- java/lang/Integer -/
def k9 : Class := { plain "java/lang/Integer" (some 5) with
  accessFlags := 49
  interfaces := #[6, 7, 8]
  cf := some (fileOf pool9 1 #[.nestMembers #[189]] #[{ accessFlags := 9, nameIndex := 187, descriptorIndex := 188, attributes := #[] }, { accessFlags := 1, nameIndex := 67, descriptorIndex := 201, attributes := #[] }] 49 203 #[304, 306, 308] #[{ accessFlags := 25, nameIndex := 310, descriptorIndex := 194, attributes := #[] }, { accessFlags := 25, nameIndex := 312, descriptorIndex := 194, attributes := #[] }, { accessFlags := 25, nameIndex := 302, descriptorIndex := 303, attributes := #[] }, { accessFlags := 24, nameIndex := 19, descriptorIndex := 20, attributes := #[] }, { accessFlags := 24, nameIndex := 89, descriptorIndex := 86, attributes := #[] }, { accessFlags := 24, nameIndex := 85, descriptorIndex := 86, attributes := #[] }, { accessFlags := 18, nameIndex := 207, descriptorIndex := 194, attributes := #[] }, { accessFlags := 25, nameIndex := 316, descriptorIndex := 194, attributes := #[] }, { accessFlags := 25, nameIndex := 318, descriptorIndex := 194, attributes := #[] }, { accessFlags := 26, nameIndex := 320, descriptorIndex := 321, attributes := #[] }])
  fields := #[{ name := "MIN_VALUE", type := .int, accessFlags := 25, slot := 0, constantValue := 0 }, { name := "MAX_VALUE", type := .int, accessFlags := 25, slot := 1, constantValue := 0 }, { name := "TYPE", type := (.object "java/lang/Class"), accessFlags := 25, slot := 2, constantValue := 0 }, { name := "digits", type := (.array .char), accessFlags := 24, slot := 3, constantValue := 0 }, { name := "DigitTens", type := (.array .byte), accessFlags := 24, slot := 4, constantValue := 0 }, { name := "DigitOnes", type := (.array .byte), accessFlags := 24, slot := 5, constantValue := 0 }, { name := "value", type := .int, accessFlags := 18, slot := 0, constantValue := 0 }, { name := "SIZE", type := .int, accessFlags := 25, slot := 6, constantValue := 0 }, { name := "BYTES", type := .int, accessFlags := 25, slot := 7, constantValue := 0 }, { name := "serialVersionUID", type := .long, accessFlags := 26, slot := 8, constantValue := 0 }]
  methods := #[k9m0, k9m1]
  instanceTypes := #[.int]
  staticTypes := #[.int, .int, (.object "java/lang/Class"), (.array .char), (.array .byte), (.array .byte), .int, .int, .long]
  resolved := Array.replicate 453 none
  statics := none }

def pool10 : Array CpInfo := pool [(2, .class_ 4), (1, u "java/lang/Object"), (0, u "<init>"), (0, u "()V"), (0, .class_ 8), (0, u "java/lang/Integer"), (7, .class_ 18), (1, u "java/lang/Integer$IntegerCache"), (0, u "$assertionsDisabled"), (0, u "Z"), (26, u "high"), (0, u "I"), (8, u "archivedCache"), (0, u "[Ljava/lang/Integer;"), (12, u "cache"), (0, u "low")] 27

def k10m0 : Method := { name := "<init>", desc := "()V", sig := { parameters := [], returnType := none }, accessFlags := 2, code := none }
/-- java/lang/Integer$IntegerCache -/
def k10 : Class := { plain "java/lang/Integer$IntegerCache" (some 0) with
  accessFlags := 48
  interfaces := #[]
  cf := some (fileOf pool10 16 #[.nestHost 7] #[{ accessFlags := 2, nameIndex := 5, descriptorIndex := 6, attributes := #[] }] 48 2 #[] #[{ accessFlags := 24, nameIndex := 72, descriptorIndex := 48, attributes := #[] }, { accessFlags := 24, nameIndex := 47, descriptorIndex := 48, attributes := #[] }, { accessFlags := 24, nameIndex := 71, descriptorIndex := 58, attributes := #[] }, { accessFlags := 8, nameIndex := 57, descriptorIndex := 58, attributes := #[] }, { accessFlags := 4120, nameIndex := 19, descriptorIndex := 20, attributes := #[] }])
  fields := #[{ name := "low", type := .int, accessFlags := 24, slot := 0, constantValue := 0 }, { name := "high", type := .int, accessFlags := 24, slot := 1, constantValue := 0 }, { name := "cache", type := (.array (.object "java/lang/Integer")), accessFlags := 24, slot := 2, constantValue := 0 }, { name := "archivedCache", type := (.array (.object "java/lang/Integer")), accessFlags := 8, slot := 3, constantValue := 0 }, { name := "$assertionsDisabled", type := .boolean, accessFlags := 4120, slot := 4, constantValue := 0 }]
  methods := #[k10m0]
  instanceTypes := #[]
  staticTypes := #[.int, .int, (.array (.object "java/lang/Integer")), (.array (.object "java/lang/Integer")), .boolean]
  resolved := Array.replicate 100 none
  statics := some 0 }

def pool11 : Array CpInfo := pool [(1, u "java/lang/Cloneable"), (0, .class_ 1), (0, u "java/lang/Object"), (0, .class_ 3)] 3

/-- java/lang/Cloneable -/
def k11 : Class := { plain "java/lang/Cloneable" (some 0) with
  accessFlags := 1537
  interfaces := #[]
  cf := some (fileOf pool11 2 #[] #[] 1537 4 #[] #[])
  fields := #[]
  methods := #[]
  instanceTypes := #[]
  staticTypes := #[]
  resolved := Array.replicate 8 none
  statics := none }

/-- the primitive byte -/
def k12 : Class := { plain "byte" none with kind := .primitive 'B', accessFlags := 0x411 }
/-- [B -/
def k13 : Class := { plain "[B" (some 0) with kind := .array 12 .byte, interfaces := #[11, 4], accessFlags := 1041 }

/-- the primitive int -/
def k14 : Class := { plain "int" none with kind := .primitive 'I', accessFlags := 0x411 }
/-- [I -/
def k15 : Class := { plain "[I" (some 0) with kind := .array 14 .int, interfaces := #[11, 4], accessFlags := 1041 }

/-- [Ljava/lang/Integer; -/
def k16 : Class := { plain "[Ljava/lang/Integer;" (some 0) with kind := .array 9 (.object "java/lang/Integer"), interfaces := #[11, 4], accessFlags := 1041 }

def heap : Heap := #[{ cls := 10, slots := #[.int 0, .int 127, .ref 1, .null, .int 0], vm := .statics 10 },
  { cls := 16, slots := #[.ref 2, .ref 3, .ref 4, .ref 5, .ref 6, .ref 7, .ref 8, .ref 9, .ref 10, .ref 11, .ref 12, .ref 13, .ref 14, .ref 15, .ref 16, .ref 17, .ref 18, .ref 19, .ref 20, .ref 21, .ref 22, .ref 23, .ref 24, .ref 25, .ref 26, .ref 27, .ref 28, .ref 29, .ref 30, .ref 31, .ref 32, .ref 33, .ref 34, .ref 35, .ref 36, .ref 37, .ref 38, .ref 39, .ref 40, .ref 41, .ref 42, .ref 43, .ref 44, .ref 45, .ref 46, .ref 47, .ref 48, .ref 49, .ref 50, .ref 51, .ref 52, .ref 53, .ref 54, .ref 55, .ref 56, .ref 57, .ref 58, .ref 59, .ref 60, .ref 61, .ref 62, .ref 63, .ref 64, .ref 65, .ref 66, .ref 67, .ref 68, .ref 69, .ref 70, .ref 71, .ref 72, .ref 73, .ref 74, .ref 75, .ref 76, .ref 77, .ref 78, .ref 79, .ref 80, .ref 81, .ref 82, .ref 83, .ref 84, .ref 85, .ref 86, .ref 87, .ref 88, .ref 89, .ref 90, .ref 91, .ref 92, .ref 93, .ref 94, .ref 95, .ref 96, .ref 97, .ref 98, .ref 99, .ref 100, .ref 101, .ref 102, .ref 103, .ref 104, .ref 105, .ref 106, .ref 107, .ref 108, .ref 109, .ref 110, .ref 111, .ref 112, .ref 113, .ref 114, .ref 115, .ref 116, .ref 117, .ref 118, .ref 119, .ref 120, .ref 121, .ref 122, .ref 123, .ref 124, .ref 125, .ref 126, .ref 127, .ref 128, .ref 129, .ref 130, .ref 131, .ref 132, .ref 133, .ref 134, .ref 135, .ref 136, .ref 137, .ref 138, .ref 139, .ref 140, .ref 141, .ref 142, .ref 143, .ref 144, .ref 145, .ref 146, .ref 147, .ref 148, .ref 149, .ref 150, .ref 151, .ref 152, .ref 153, .ref 154, .ref 155, .ref 156, .ref 157, .ref 158, .ref 159, .ref 160, .ref 161, .ref 162, .ref 163, .ref 164, .ref 165, .ref 166, .ref 167, .ref 168, .ref 169, .ref 170, .ref 171, .ref 172, .ref 173, .ref 174, .ref 175, .ref 176, .ref 177, .ref 178, .ref 179, .ref 180, .ref 181, .ref 182, .ref 183, .ref 184, .ref 185, .ref 186, .ref 187, .ref 188, .ref 189, .ref 190, .ref 191, .ref 192, .ref 193, .ref 194, .ref 195, .ref 196, .ref 197, .ref 198, .ref 199, .ref 200, .ref 201, .ref 202, .ref 203, .ref 204, .ref 205, .ref 206, .ref 207, .ref 208, .ref 209, .ref 210, .ref 211, .ref 212, .ref 213, .ref 214, .ref 215, .ref 216, .ref 217, .ref 218, .ref 219, .ref 220, .ref 221, .ref 222, .ref 223, .ref 224, .ref 225, .ref 226, .ref 227, .ref 228, .ref 229, .ref 230, .ref 231, .ref 232, .ref 233, .ref 234, .ref 235, .ref 236, .ref 237, .ref 238, .ref 239, .ref 240, .ref 241, .ref 242, .ref 243, .ref 244, .ref 245, .ref 246, .ref 247, .ref 248, .ref 249, .ref 250, .ref 251, .ref 252, .ref 253, .ref 254, .ref 255, .ref 256, .ref 257], vm := .none },
  { cls := 9, slots := #[.int (-128)], vm := .none },
  { cls := 9, slots := #[.int (-127)], vm := .none },
  { cls := 9, slots := #[.int (-126)], vm := .none },
  { cls := 9, slots := #[.int (-125)], vm := .none },
  { cls := 9, slots := #[.int (-124)], vm := .none },
  { cls := 9, slots := #[.int (-123)], vm := .none },
  { cls := 9, slots := #[.int (-122)], vm := .none },
  { cls := 9, slots := #[.int (-121)], vm := .none },
  { cls := 9, slots := #[.int (-120)], vm := .none },
  { cls := 9, slots := #[.int (-119)], vm := .none },
  { cls := 9, slots := #[.int (-118)], vm := .none },
  { cls := 9, slots := #[.int (-117)], vm := .none },
  { cls := 9, slots := #[.int (-116)], vm := .none },
  { cls := 9, slots := #[.int (-115)], vm := .none },
  { cls := 9, slots := #[.int (-114)], vm := .none },
  { cls := 9, slots := #[.int (-113)], vm := .none },
  { cls := 9, slots := #[.int (-112)], vm := .none },
  { cls := 9, slots := #[.int (-111)], vm := .none },
  { cls := 9, slots := #[.int (-110)], vm := .none },
  { cls := 9, slots := #[.int (-109)], vm := .none },
  { cls := 9, slots := #[.int (-108)], vm := .none },
  { cls := 9, slots := #[.int (-107)], vm := .none },
  { cls := 9, slots := #[.int (-106)], vm := .none },
  { cls := 9, slots := #[.int (-105)], vm := .none },
  { cls := 9, slots := #[.int (-104)], vm := .none },
  { cls := 9, slots := #[.int (-103)], vm := .none },
  { cls := 9, slots := #[.int (-102)], vm := .none },
  { cls := 9, slots := #[.int (-101)], vm := .none },
  { cls := 9, slots := #[.int (-100)], vm := .none },
  { cls := 9, slots := #[.int (-99)], vm := .none },
  { cls := 9, slots := #[.int (-98)], vm := .none },
  { cls := 9, slots := #[.int (-97)], vm := .none },
  { cls := 9, slots := #[.int (-96)], vm := .none },
  { cls := 9, slots := #[.int (-95)], vm := .none },
  { cls := 9, slots := #[.int (-94)], vm := .none },
  { cls := 9, slots := #[.int (-93)], vm := .none },
  { cls := 9, slots := #[.int (-92)], vm := .none },
  { cls := 9, slots := #[.int (-91)], vm := .none },
  { cls := 9, slots := #[.int (-90)], vm := .none },
  { cls := 9, slots := #[.int (-89)], vm := .none },
  { cls := 9, slots := #[.int (-88)], vm := .none },
  { cls := 9, slots := #[.int (-87)], vm := .none },
  { cls := 9, slots := #[.int (-86)], vm := .none },
  { cls := 9, slots := #[.int (-85)], vm := .none },
  { cls := 9, slots := #[.int (-84)], vm := .none },
  { cls := 9, slots := #[.int (-83)], vm := .none },
  { cls := 9, slots := #[.int (-82)], vm := .none },
  { cls := 9, slots := #[.int (-81)], vm := .none },
  { cls := 9, slots := #[.int (-80)], vm := .none },
  { cls := 9, slots := #[.int (-79)], vm := .none },
  { cls := 9, slots := #[.int (-78)], vm := .none },
  { cls := 9, slots := #[.int (-77)], vm := .none },
  { cls := 9, slots := #[.int (-76)], vm := .none },
  { cls := 9, slots := #[.int (-75)], vm := .none },
  { cls := 9, slots := #[.int (-74)], vm := .none },
  { cls := 9, slots := #[.int (-73)], vm := .none },
  { cls := 9, slots := #[.int (-72)], vm := .none },
  { cls := 9, slots := #[.int (-71)], vm := .none },
  { cls := 9, slots := #[.int (-70)], vm := .none },
  { cls := 9, slots := #[.int (-69)], vm := .none },
  { cls := 9, slots := #[.int (-68)], vm := .none },
  { cls := 9, slots := #[.int (-67)], vm := .none },
  { cls := 9, slots := #[.int (-66)], vm := .none },
  { cls := 9, slots := #[.int (-65)], vm := .none },
  { cls := 9, slots := #[.int (-64)], vm := .none },
  { cls := 9, slots := #[.int (-63)], vm := .none },
  { cls := 9, slots := #[.int (-62)], vm := .none },
  { cls := 9, slots := #[.int (-61)], vm := .none },
  { cls := 9, slots := #[.int (-60)], vm := .none },
  { cls := 9, slots := #[.int (-59)], vm := .none },
  { cls := 9, slots := #[.int (-58)], vm := .none },
  { cls := 9, slots := #[.int (-57)], vm := .none },
  { cls := 9, slots := #[.int (-56)], vm := .none },
  { cls := 9, slots := #[.int (-55)], vm := .none },
  { cls := 9, slots := #[.int (-54)], vm := .none },
  { cls := 9, slots := #[.int (-53)], vm := .none },
  { cls := 9, slots := #[.int (-52)], vm := .none },
  { cls := 9, slots := #[.int (-51)], vm := .none },
  { cls := 9, slots := #[.int (-50)], vm := .none },
  { cls := 9, slots := #[.int (-49)], vm := .none },
  { cls := 9, slots := #[.int (-48)], vm := .none },
  { cls := 9, slots := #[.int (-47)], vm := .none },
  { cls := 9, slots := #[.int (-46)], vm := .none },
  { cls := 9, slots := #[.int (-45)], vm := .none },
  { cls := 9, slots := #[.int (-44)], vm := .none },
  { cls := 9, slots := #[.int (-43)], vm := .none },
  { cls := 9, slots := #[.int (-42)], vm := .none },
  { cls := 9, slots := #[.int (-41)], vm := .none },
  { cls := 9, slots := #[.int (-40)], vm := .none },
  { cls := 9, slots := #[.int (-39)], vm := .none },
  { cls := 9, slots := #[.int (-38)], vm := .none },
  { cls := 9, slots := #[.int (-37)], vm := .none },
  { cls := 9, slots := #[.int (-36)], vm := .none },
  { cls := 9, slots := #[.int (-35)], vm := .none },
  { cls := 9, slots := #[.int (-34)], vm := .none },
  { cls := 9, slots := #[.int (-33)], vm := .none },
  { cls := 9, slots := #[.int (-32)], vm := .none },
  { cls := 9, slots := #[.int (-31)], vm := .none },
  { cls := 9, slots := #[.int (-30)], vm := .none },
  { cls := 9, slots := #[.int (-29)], vm := .none },
  { cls := 9, slots := #[.int (-28)], vm := .none },
  { cls := 9, slots := #[.int (-27)], vm := .none },
  { cls := 9, slots := #[.int (-26)], vm := .none },
  { cls := 9, slots := #[.int (-25)], vm := .none },
  { cls := 9, slots := #[.int (-24)], vm := .none },
  { cls := 9, slots := #[.int (-23)], vm := .none },
  { cls := 9, slots := #[.int (-22)], vm := .none },
  { cls := 9, slots := #[.int (-21)], vm := .none },
  { cls := 9, slots := #[.int (-20)], vm := .none },
  { cls := 9, slots := #[.int (-19)], vm := .none },
  { cls := 9, slots := #[.int (-18)], vm := .none },
  { cls := 9, slots := #[.int (-17)], vm := .none },
  { cls := 9, slots := #[.int (-16)], vm := .none },
  { cls := 9, slots := #[.int (-15)], vm := .none },
  { cls := 9, slots := #[.int (-14)], vm := .none },
  { cls := 9, slots := #[.int (-13)], vm := .none },
  { cls := 9, slots := #[.int (-12)], vm := .none },
  { cls := 9, slots := #[.int (-11)], vm := .none },
  { cls := 9, slots := #[.int (-10)], vm := .none },
  { cls := 9, slots := #[.int (-9)], vm := .none },
  { cls := 9, slots := #[.int (-8)], vm := .none },
  { cls := 9, slots := #[.int (-7)], vm := .none },
  { cls := 9, slots := #[.int (-6)], vm := .none },
  { cls := 9, slots := #[.int (-5)], vm := .none },
  { cls := 9, slots := #[.int (-4)], vm := .none },
  { cls := 9, slots := #[.int (-3)], vm := .none },
  { cls := 9, slots := #[.int (-2)], vm := .none },
  { cls := 9, slots := #[.int (-1)], vm := .none },
  { cls := 9, slots := #[.int 0], vm := .none },
  { cls := 9, slots := #[.int 1], vm := .none },
  { cls := 9, slots := #[.int 2], vm := .none },
  { cls := 9, slots := #[.int 3], vm := .none },
  { cls := 9, slots := #[.int 4], vm := .none },
  { cls := 9, slots := #[.int 5], vm := .none },
  { cls := 9, slots := #[.int 6], vm := .none },
  { cls := 9, slots := #[.int 7], vm := .none },
  { cls := 9, slots := #[.int 8], vm := .none },
  { cls := 9, slots := #[.int 9], vm := .none },
  { cls := 9, slots := #[.int 10], vm := .none },
  { cls := 9, slots := #[.int 11], vm := .none },
  { cls := 9, slots := #[.int 12], vm := .none },
  { cls := 9, slots := #[.int 13], vm := .none },
  { cls := 9, slots := #[.int 14], vm := .none },
  { cls := 9, slots := #[.int 15], vm := .none },
  { cls := 9, slots := #[.int 16], vm := .none },
  { cls := 9, slots := #[.int 17], vm := .none },
  { cls := 9, slots := #[.int 18], vm := .none },
  { cls := 9, slots := #[.int 19], vm := .none },
  { cls := 9, slots := #[.int 20], vm := .none },
  { cls := 9, slots := #[.int 21], vm := .none },
  { cls := 9, slots := #[.int 22], vm := .none },
  { cls := 9, slots := #[.int 23], vm := .none },
  { cls := 9, slots := #[.int 24], vm := .none },
  { cls := 9, slots := #[.int 25], vm := .none },
  { cls := 9, slots := #[.int 26], vm := .none },
  { cls := 9, slots := #[.int 27], vm := .none },
  { cls := 9, slots := #[.int 28], vm := .none },
  { cls := 9, slots := #[.int 29], vm := .none },
  { cls := 9, slots := #[.int 30], vm := .none },
  { cls := 9, slots := #[.int 31], vm := .none },
  { cls := 9, slots := #[.int 32], vm := .none },
  { cls := 9, slots := #[.int 33], vm := .none },
  { cls := 9, slots := #[.int 34], vm := .none },
  { cls := 9, slots := #[.int 35], vm := .none },
  { cls := 9, slots := #[.int 36], vm := .none },
  { cls := 9, slots := #[.int 37], vm := .none },
  { cls := 9, slots := #[.int 38], vm := .none },
  { cls := 9, slots := #[.int 39], vm := .none },
  { cls := 9, slots := #[.int 40], vm := .none },
  { cls := 9, slots := #[.int 41], vm := .none },
  { cls := 9, slots := #[.int 42], vm := .none },
  { cls := 9, slots := #[.int 43], vm := .none },
  { cls := 9, slots := #[.int 44], vm := .none },
  { cls := 9, slots := #[.int 45], vm := .none },
  { cls := 9, slots := #[.int 46], vm := .none },
  { cls := 9, slots := #[.int 47], vm := .none },
  { cls := 9, slots := #[.int 48], vm := .none },
  { cls := 9, slots := #[.int 49], vm := .none },
  { cls := 9, slots := #[.int 50], vm := .none },
  { cls := 9, slots := #[.int 51], vm := .none },
  { cls := 9, slots := #[.int 52], vm := .none },
  { cls := 9, slots := #[.int 53], vm := .none },
  { cls := 9, slots := #[.int 54], vm := .none },
  { cls := 9, slots := #[.int 55], vm := .none },
  { cls := 9, slots := #[.int 56], vm := .none },
  { cls := 9, slots := #[.int 57], vm := .none },
  { cls := 9, slots := #[.int 58], vm := .none },
  { cls := 9, slots := #[.int 59], vm := .none },
  { cls := 9, slots := #[.int 60], vm := .none },
  { cls := 9, slots := #[.int 61], vm := .none },
  { cls := 9, slots := #[.int 62], vm := .none },
  { cls := 9, slots := #[.int 63], vm := .none },
  { cls := 9, slots := #[.int 64], vm := .none },
  { cls := 9, slots := #[.int 65], vm := .none },
  { cls := 9, slots := #[.int 66], vm := .none },
  { cls := 9, slots := #[.int 67], vm := .none },
  { cls := 9, slots := #[.int 68], vm := .none },
  { cls := 9, slots := #[.int 69], vm := .none },
  { cls := 9, slots := #[.int 70], vm := .none },
  { cls := 9, slots := #[.int 71], vm := .none },
  { cls := 9, slots := #[.int 72], vm := .none },
  { cls := 9, slots := #[.int 73], vm := .none },
  { cls := 9, slots := #[.int 74], vm := .none },
  { cls := 9, slots := #[.int 75], vm := .none },
  { cls := 9, slots := #[.int 76], vm := .none },
  { cls := 9, slots := #[.int 77], vm := .none },
  { cls := 9, slots := #[.int 78], vm := .none },
  { cls := 9, slots := #[.int 79], vm := .none },
  { cls := 9, slots := #[.int 80], vm := .none },
  { cls := 9, slots := #[.int 81], vm := .none },
  { cls := 9, slots := #[.int 82], vm := .none },
  { cls := 9, slots := #[.int 83], vm := .none },
  { cls := 9, slots := #[.int 84], vm := .none },
  { cls := 9, slots := #[.int 85], vm := .none },
  { cls := 9, slots := #[.int 86], vm := .none },
  { cls := 9, slots := #[.int 87], vm := .none },
  { cls := 9, slots := #[.int 88], vm := .none },
  { cls := 9, slots := #[.int 89], vm := .none },
  { cls := 9, slots := #[.int 90], vm := .none },
  { cls := 9, slots := #[.int 91], vm := .none },
  { cls := 9, slots := #[.int 92], vm := .none },
  { cls := 9, slots := #[.int 93], vm := .none },
  { cls := 9, slots := #[.int 94], vm := .none },
  { cls := 9, slots := #[.int 95], vm := .none },
  { cls := 9, slots := #[.int 96], vm := .none },
  { cls := 9, slots := #[.int 97], vm := .none },
  { cls := 9, slots := #[.int 98], vm := .none },
  { cls := 9, slots := #[.int 99], vm := .none },
  { cls := 9, slots := #[.int 100], vm := .none },
  { cls := 9, slots := #[.int 101], vm := .none },
  { cls := 9, slots := #[.int 102], vm := .none },
  { cls := 9, slots := #[.int 103], vm := .none },
  { cls := 9, slots := #[.int 104], vm := .none },
  { cls := 9, slots := #[.int 105], vm := .none },
  { cls := 9, slots := #[.int 106], vm := .none },
  { cls := 9, slots := #[.int 107], vm := .none },
  { cls := 9, slots := #[.int 108], vm := .none },
  { cls := 9, slots := #[.int 109], vm := .none },
  { cls := 9, slots := #[.int 110], vm := .none },
  { cls := 9, slots := #[.int 111], vm := .none },
  { cls := 9, slots := #[.int 112], vm := .none },
  { cls := 9, slots := #[.int 113], vm := .none },
  { cls := 9, slots := #[.int 114], vm := .none },
  { cls := 9, slots := #[.int 115], vm := .none },
  { cls := 9, slots := #[.int 116], vm := .none },
  { cls := 9, slots := #[.int 117], vm := .none },
  { cls := 9, slots := #[.int 118], vm := .none },
  { cls := 9, slots := #[.int 119], vm := .none },
  { cls := 9, slots := #[.int 120], vm := .none },
  { cls := 9, slots := #[.int 121], vm := .none },
  { cls := 9, slots := #[.int 122], vm := .none },
  { cls := 9, slots := #[.int 123], vm := .none },
  { cls := 9, slots := #[.int 124], vm := .none },
  { cls := 9, slots := #[.int 125], vm := .none },
  { cls := 9, slots := #[.int 126], vm := .none },
  { cls := 9, slots := #[.int 127], vm := .none }]
def classes : Array Class := #[k0, k1, k2, k3, k4, k5, k6, k7, k8, k9, k10, k11, k12, k13, k14, k15, k16]
def interned : List (Array UInt16 × Addr) := []
def slotsUsed : Nat := 517
def theMethod : MethodId := ⟨1, 1⟩
def args0 : Array Value := #[.int 1, .int 2, .int 3, .int 4, .int 0]
def aboutOver (below : List Frame) : State where
  vm := { classes := classes, interned := interned.toArray }
  heap := heap
  slotsUsed := slotsUsed
  threads := #[{ frames := .invoking theMethod args0 :: below }]
def below0 : List Frame := [.native { method := ⟨0, 0⟩, args := #[] }]
def about1 : State := aboutOver below0
def p0 : Program := .bare "" "" ""
def e0 : Env := launch0.env 0 0 0
theorem w_frames : about1.frames = Frame.invoking theMethod args0 :: below0 := rfl
set_option maxRecDepth 65536 in
theorem w_args : argsFit about1.vm theMethod args0 = true := by decide +kernel
set_option maxRecDepth 65536 in
theorem w_heap : heapFits about1 = true := by decide +kernel
set_option maxRecDepth 65536 in
theorem w_runnable : about1.curStatus? = some .runnable := by decide +kernel
set_option maxRecDepth 65536 in
theorem w_alone : about1.alone = true := by decide +kernel
set_option maxRecDepth 65536 in
theorem w_named : about1.methodNamed? x = some theMethod := by decide +kernel
set_option maxRecDepth 65536 in
theorem w_hears : about1.hears theMethod below0 = true := by decide +kernel
set_option maxRecDepth 65536 in
theorem w_ripe : about1.ripe theMethod args0 below0 = true := by decide +kernel
theorem w_running : about1.status = .running := rfl
set_option maxRecDepth 65536 in
theorem w_room : about1.hasRoom e0.platform room_1 = true :=
  launch0.hasRoom_least _ room_1 (by decide +kernel) (by decide +kernel) (by decide +kernel) (by decide +kernel) (by decide +kernel) (by decide +kernel)
theorem allAtoms_all (ts : List Jvm.Cond) (a : Array Jvm.Value) (st : Jvm.State) : (allAtoms ts).before a st = ts.all (fun c => c.before a st) := by
  induction ts with
  | nil => rfl
  | cons c t ih =>
    show (Jvm.Cond.and c (allAtoms t)).before a st = _
    rw [Jvm.Cond.before_and, ih, List.all_cons]
def words1 : List Jvm.Cond := Jvm.Cond.code x code maxLocals ret :: tables_1
/-- a 'code' word, met by the world's own term for the bytes: nothing is compared byte by byte -/
theorem code_word {y : MethodName} {bytes : ByteArray} {mx : Nat} {rt : Option FieldType} {a : Array Value} {s : State} {m : MethodId} {meth : Method} {c : Code} (h1 : s.methodNamed? y = some m) (h2 : s.vm.method? m = some meth) (h3 : meth.code = some c) (h4 : c.code = bytes)
    (h5 : (c.maxLocals == mx && c.exceptionTable.isEmpty && decide (c.maxStack ≤ mostOperands) && decide (meth.sig.returnType = rt) && !meth.locks && decide (parseMethodDescriptor y.desc = some meth.sig)) = true) : (Jvm.Cond.code y bytes mx rt).before a s = true := by
  simp only [Bool.and_eq_true, beq_iff_eq, Bool.not_eq_true', decide_eq_true_eq] at h5
  obtain ⟨⟨⟨⟨⟨g1, g2⟩, g3⟩, g4⟩, g5⟩, g6⟩ := h5
  simp [Cond.before, Cond.holds, Cond.value, h1, h2, h3, h4, g1, g2, g3, g4, g5, g6]
def isCode : Jvm.Cond → Bool
  | .code _ _ _ _ => true
  | _ => false
theorem all_split {L : List Jvm.Cond} {P : Jvm.Cond → Bool} (h1 : L.all (fun c => isCode c || P c) = true) (h2 : ∀ c ∈ L.filter isCode, P c = true) : L.all P = true := by
  refine List.all_eq_true.mpr fun c hc => ?_
  have h := List.all_eq_true.mp h1 c hc
  rcases Bool.eq_false_or_eq_true (isCode c) with hi | hi
  · exact h2 c (List.mem_filter.mpr ⟨hc, hi⟩)
  · simpa [hi] using h
set_option maxRecDepth 65536 in
theorem w_c0 : (Jvm.Cond.code x code maxLocals ret).before args0 about1 = true := code_word (m := ⟨1, 1⟩) (meth := k1m1) (c := k1c1) (by decide +kernel) rfl rfl rfl (by decide +kernel)
set_option maxRecDepth 65536 in
theorem w_c1 : (Jvm.Cond.code ({ cls := "com/example/libtbox/libtbox/core/Edge", name := "<init>", desc := "(II)V" } : Jvm.MethodName) prog_25_method_1_code (3 : Nat) (Option.none : Option Jvm.ClassFile.FieldType)).before args0 about1 = true := code_word (m := ⟨3, 0⟩) (meth := k3m0) (c := k3c0) (by decide +kernel) rfl rfl rfl (by decide +kernel)
set_option maxRecDepth 65536 in
theorem w_c2 : (Jvm.Cond.code ({ cls := "java/lang/Record", name := "<init>", desc := "()V" } : Jvm.MethodName) jdk_30_method_1_code (1 : Nat) (Option.none : Option Jvm.ClassFile.FieldType)).before args0 about1 = true := code_word (m := ⟨2, 0⟩) (meth := k2m0) (c := k2c0) (by decide +kernel) rfl rfl rfl (by decide +kernel)
set_option maxRecDepth 65536 in
theorem w_c3 : (Jvm.Cond.code ({ cls := "java/lang/Object", name := "<init>", desc := "()V" } : Jvm.MethodName) object_method_1_code (1 : Nat) (Option.none : Option Jvm.ClassFile.FieldType)).before args0 about1 = true := code_word (m := ⟨0, 0⟩) (meth := k0m0) (c := k0c0) (by decide +kernel) rfl rfl rfl (by decide +kernel)
set_option maxRecDepth 65536 in
theorem w_c4 : (Jvm.Cond.code ({ cls := "com/example/libtbox/libtbox/core/Edge", name := "equals", desc := "(Ljava/lang/Object;)Z" } : Jvm.MethodName) prog_25_method_2_code (3 : Nat) (Option.some Jvm.ClassFile.FieldType.boolean)).before args0 about1 = true := code_word (m := ⟨3, 1⟩) (meth := k3m1) (c := k3c1) (by decide +kernel) rfl rfl rfl (by decide +kernel)
set_option maxRecDepth 65536 in
theorem w_c5 : (Jvm.Cond.code ({ cls := "java/lang/Integer", name := "valueOf", desc := "(I)Ljava/lang/Integer;" } : Jvm.MethodName) jdk_33_method_22_code (1 : Nat) (Option.some (Jvm.ClassFile.FieldType.object "java/lang/Integer"))).before args0 about1 = true := code_word (m := ⟨9, 0⟩) (meth := k9m0) (c := k9c0) (by decide +kernel) rfl rfl rfl (by decide +kernel)
set_option maxRecDepth 65536 in
theorem w_c6 : (Jvm.Cond.code ({ cls := "java/lang/Integer", name := "<init>", desc := "(I)V" } : Jvm.MethodName) jdk_33_method_23_code (2 : Nat) (Option.none : Option Jvm.ClassFile.FieldType)).before args0 about1 = true := code_word (m := ⟨9, 1⟩) (meth := k9m1) (c := k9c1) (by decide +kernel) rfl rfl rfl (by decide +kernel)
set_option maxRecDepth 65536 in
theorem w_c7 : (Jvm.Cond.code ({ cls := "java/lang/Number", name := "<init>", desc := "()V" } : Jvm.MethodName) jdk_18_method_1_code (1 : Nat) (Option.none : Option Jvm.ClassFile.FieldType)).before args0 about1 = true := code_word (m := ⟨5, 0⟩) (meth := k5m0) (c := k5c0) (by decide +kernel) rfl rfl rfl (by decide +kernel)
def codes1 : List Jvm.Cond := [Jvm.Cond.code x code maxLocals ret, Jvm.Cond.code ({ cls := "com/example/libtbox/libtbox/core/Edge", name := "<init>", desc := "(II)V" } : Jvm.MethodName) prog_25_method_1_code (3 : Nat) (Option.none : Option Jvm.ClassFile.FieldType), Jvm.Cond.code ({ cls := "java/lang/Record", name := "<init>", desc := "()V" } : Jvm.MethodName) jdk_30_method_1_code (1 : Nat) (Option.none : Option Jvm.ClassFile.FieldType), Jvm.Cond.code ({ cls := "java/lang/Object", name := "<init>", desc := "()V" } : Jvm.MethodName) object_method_1_code (1 : Nat) (Option.none : Option Jvm.ClassFile.FieldType), Jvm.Cond.code ({ cls := "com/example/libtbox/libtbox/core/Edge", name := "equals", desc := "(Ljava/lang/Object;)Z" } : Jvm.MethodName) prog_25_method_2_code (3 : Nat) (Option.some Jvm.ClassFile.FieldType.boolean), Jvm.Cond.code ({ cls := "java/lang/Integer", name := "valueOf", desc := "(I)Ljava/lang/Integer;" } : Jvm.MethodName) jdk_33_method_22_code (1 : Nat) (Option.some (Jvm.ClassFile.FieldType.object "java/lang/Integer")), Jvm.Cond.code ({ cls := "java/lang/Integer", name := "<init>", desc := "(I)V" } : Jvm.MethodName) jdk_33_method_23_code (2 : Nat) (Option.none : Option Jvm.ClassFile.FieldType), Jvm.Cond.code ({ cls := "java/lang/Number", name := "<init>", desc := "()V" } : Jvm.MethodName) jdk_18_method_1_code (1 : Nat) (Option.none : Option Jvm.ClassFile.FieldType)]
set_option maxRecDepth 65536 in
theorem codes_eq : words1.filter isCode = codes1 := rfl
theorem w_codes : ∀ c ∈ words1.filter isCode, c.before args0 about1 = true := by
  rw [codes_eq]
  intro c hc
  simp only [codes1, List.mem_cons, List.not_mem_nil, or_false] at hc
  rcases hc with rfl | rfl | rfl | rfl | rfl | rfl | rfl | rfl
  · exact w_c0
  · exact w_c1
  · exact w_c2
  · exact w_c3
  · exact w_c4
  · exact w_c5
  · exact w_c6
  · exact w_c7
set_option maxRecDepth 65536 in
theorem w_t1 : (words1.take 24).all (fun c => isCode c || c.before args0 about1) = true := by decide +kernel
set_option maxRecDepth 65536 in
theorem w_t2 : ((words1.drop 24).take 24).all (fun c => isCode c || c.before args0 about1) = true := by decide +kernel
set_option maxRecDepth 65536 in
theorem w_t3 : ((words1.drop 24).drop 24).all (fun c => isCode c || c.before args0 about1) = true := by decide +kernel
theorem w_tables : (allAtoms (Jvm.Cond.code x code maxLocals ret :: tables_1)).before args0 about1 = true := by
  rw [allAtoms_all]
  show words1.all (fun c => c.before args0 about1) = true
  refine all_split ?_ w_codes
  rw [← List.take_append_drop 24 words1, List.all_append, w_t1, ← List.take_append_drop 24 (words1.drop 24), List.all_append, w_t2, w_t3]
  rfl
set_option maxRecDepth 65536 in
theorem w_rest : rest_1_c.before args0 about1 = true := by decide +kernel
set_option maxRecDepth 65536 in
theorem w_case : (Jvm.Cond.and given_1 narrow_1).before args0 about1 = true := by decide +kernel
theorem w_applies : (headSpec (Jvm.Cond.code x code maxLocals ret :: tables_1) room_1).applies x e0.platform about1 = true :=
  (Spec.applies_iff w_frames).mpr ⟨w_running, w_runnable, w_alone, w_named, w_hears, w_ripe, w_room, w_tables⟩
theorem atStart : AtStart classFile x code maxLocals ret World_1 tables_1 room_1 Calls_1 rest_1 Pre_1 launch0 p0 e0 about1 theMethod args0 below0 :=
  ⟨lists_1, trivial, launch0.admits_env _ _ _, launch0.least_env, fairChoices_fair.cas, fairChoices_fair.clock, w_frames, w_args, w_heap, w_applies, trivial, w_rest, w_case⟩
end start1
theorem witness_1 : WitnessClaimed_1 := ⟨start1.p0, start1.e0, start1.about1, start1.theMethod, start1.args0, start1.below0, start1.atStart⟩
end Jvm.Pilot.@@N@@
