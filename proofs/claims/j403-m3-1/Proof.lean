import JvmDerived
import JvmDerived.Pilot.@@N@@Statement
import JvmDerived.Pilot.@@N@@Code
set_option linter.unusedVariables false
set_option linter.unusedSimpArgs false
namespace Jvm.Pilot.@@N@@
open Jvm Jvm.ClassFile Sem Op Lib Jvm.Free Jvm.Stand Jvm.LawKit Jvm.RoadKit Bundle Jvm.Pilot.@@N@@.Jvm.D
theorem hwi {Z : State} {a0 : Array Value} (hw : ∀ d ∈ tables_1, d.before a0 Z = true) (i : Nat) {d : Jvm.Cond} (h : tables_1[i]? = some d) : d.before a0 Z = true := hw _ (List.mem_of_getElem? h)
section Own
variable {p : Program} {l : Launch} {e : Env} {R : Room} {s : State} {m : MethodId} {args : Array Value} {below : List Frame} {meth : Method} {c : Code} {T : State} {locs : List Loc} {cells slots : Nat} {Z : State} {a0 : Array Value} {h h' : Heap} {Q : Option Value → Heap → List Loc → Prop} {rc rs : Nat}
/-- from here the run comes to its return, and what it leaves is Q -/
def Ends (p : Program) (e : Env) (below : List Frame) (s : State) (Q : Option Value → Heap → List Loc → Prop) (rc rs : Nat) (T : State) (g : JFrame) : Prop :=
  ∃ s₂ o, Steps p.tables e below (T.setTop g) s₂ ∧ s₂.status = .running ∧ Ended s₂ below o ∧ ∃ v L, o = .returned v ∧ Q v s₂.heap L ∧ FrameEnd s o s₂ L rc rs
theorem go {T' : State} {g g' : JFrame} (f : ∀ t, Steps p.tables e below (T'.setTop g') t → Steps p.tables e below (T.setTop g) t) (k : Ends p e below s Q rc rs T' g') : Ends p e below s Q rc rs T g := by
  obtain ⟨s₂, o, h1, r⟩ := k
  exact ⟨s₂, o, f _ h1, r⟩
theorem goS {T' : State} {g g' : JFrame} (f : Steps p.tables e below (T.setTop g) (T'.setTop g')) (k : Ends p e below s Q rc rs T' g') : Ends p e below s Q rc rs T g := by
  obtain ⟨s₂, o, h1, r⟩ := k
  exact ⟨s₂, o, f.trans h1, r⟩
theorem retI (X : Stand p l e R s m args below meth c T locs cells slots) (hx : p.tables.exec = Jvm.exec) {pc : Nat} {Ls : Array Slot} {z : Int32} {rest : List Value} (hret : meth.sig.returnType = some .int) (hd : decode c.code pc = .ok (.ireturn, 1)) {fs : List Frame}
    (hl : ∀ (f : JFrame) (acts : List Action), f.method = m → f.locked = none → f.entered = [] → (doReturn e (T.setTop f) acts (some (.int z))).1 = T.setFrames fs) : Steps p.tables e below (T.setTop (mkF m pc Ls (.int z :: rest))) (T.setFrames fs) := by
  have hm' : T.vm.method? m = some meth := X.method'
  have hn : narrow .int (.int z) = .int z := rfl
  show Steps p.tables e below (T.setTop { method := m, pc := pc, locals := Ls, stack := _ :: rest, locked := none }) _
  jvm_step X.here [X.here.top, hx, hd, hm', hret, hn]
  first | (intro acts; rw [hl _ acts rfl rfl rfl]) | rw [hl _ _ rfl rfl rfl]
  exact Steps.refl _
theorem endI (X : Stand p l e R s m args below meth c T locs cells slots) (hx : p.tables.exec = Jvm.exec) (hlk : meth.locks = false) {pc : Nat} {Ls : Array Slot} {z : Int32} {rest : List Value} (hret : meth.sig.returnType = some .int) (hd : decode c.code pc = .ok (.ireturn, 1)) (eT : T.heap = h) (hq : Q (some (.int z)) h locs) (hc : cells ≤ rc) (hs : slots ≤ rs) :
    Ends p e below s Q rc rs T (mkF m pc Ls (.int z :: rest)) := by
  subst eT
  obtain ⟨fs, hr, hrun, hended, hW, hsame⟩ := X.leave (v := some (.int z)) (fun h => by rw [hret] at h; cases h) hlk
  exact ⟨_, _, retI X hx hret hd hr, hrun, hended, _, _, rfl, hq, ⟨_, rfl⟩, hW, hsame.mono hc hs⟩
/-- a boolean, byte, char or short: what is returned is narrowed -/
theorem endN (X : Stand p l e R s m args below meth c T locs cells slots) (hx : p.tables.exec = Jvm.exec) (hlk : meth.locks = false) {pc : Nat} {Ls : Array Slot} {z : Int32} {t : FieldType} {rest : List Value} (hret : meth.sig.returnType = some t) (ht : t = .boolean ∨ t = .byte ∨ t = .char ∨ t = .short) (hd : decode c.code pc = .ok (.ireturn, 1)) (eT : T.heap = h) (hq : Q (some (.int (nar t z))) h locs) (hc : cells ≤ rc) (hs : slots ≤ rs) :
    Ends p e below s Q rc rs T (mkF m pc Ls (.int z :: rest)) := by
  subst eT
  obtain ⟨fs, hr, hrun, hended, hW, hsame⟩ := X.leave (v := some (.int (nar t z))) (fun h => by rw [hret] at h; cases h) hlk
  exact ⟨_, _, retN X hx hret ht hd hr, hrun, hended, _, _, rfl, hq, ⟨_, rfl⟩, hW, hsame.mono hc hs⟩
theorem endA (X : Stand p l e R s m args below meth c T locs cells slots) (hx : p.tables.exec = Jvm.exec) (hlk : meth.locks = false) {pc : Nat} {Ls : Array Slot} {w : Value} {t : FieldType} {rest : List Value} (hret : meth.sig.returnType = some t) (ht : t.isReference = true) (hw : w.isRef = true) (hd : decode c.code pc = .ok (.areturn, 1)) (eT : T.heap = h) (hq : Q (some w) h locs) (hc : cells ≤ rc) (hs : slots ≤ rs) :
    Ends p e below s Q rc rs T (mkF m pc Ls (w :: rest)) := by
  subst eT
  obtain ⟨fs, hr, hrun, hended, hW, hsame⟩ := X.leave (v := some w) (fun h => by rw [hret] at h; cases h) hlk
  have hn : narrow t w = w := by rcases ref_cases hw with rfl | ⟨b, rfl⟩ <;> cases t <;> rfl
  exact ⟨_, _, retOut X hx hret hn (Or.inr (Or.inr (Or.inr (Or.inr ⟨rfl, ht, hw⟩)))) hd hr, hrun, hended, _, _, rfl, hq, ⟨_, rfl⟩, hW, hsame.mono hc hs⟩
theorem endJ (X : Stand p l e R s m args below meth c T locs cells slots) (hx : p.tables.exec = Jvm.exec) (hlk : meth.locks = false) {pc : Nat} {Ls : Array Slot} {z : Int64} {rest : List Value} (hret : meth.sig.returnType = some .long) (hd : decode c.code pc = .ok (.lreturn, 1)) (eT : T.heap = h) (hq : Q (some (.long z)) h locs) (hc : cells ≤ rc) (hs : slots ≤ rs) :
    Ends p e below s Q rc rs T (mkF m pc Ls (.long z :: rest)) := by
  subst eT
  obtain ⟨fs, hr, hrun, hended, hW, hsame⟩ := X.leave (v := some (.long z)) (fun h => by rw [hret] at h; cases h) hlk
  exact ⟨_, _, retOut X hx hret rfl (Or.inr (Or.inl ⟨rfl, rfl, z, rfl⟩)) hd hr, hrun, hended, _, _, rfl, hq, ⟨_, rfl⟩, hW, hsame.mono hc hs⟩
theorem endV (X : Stand p l e R s m args below meth c T locs cells slots) (hx : p.tables.exec = Jvm.exec) (hlk : meth.locks = false) {pc : Nat} {Ls : Array Slot} (hret : meth.sig.returnType = none) (hd : decode c.code pc = .ok (.return_, 1)) (eT : T.heap = h) (hq : Q none h locs) (hc : cells ≤ rc) (hs : slots ≤ rs) :
    Ends p e below s Q rc rs T (mkF m pc Ls []) := by
  subst eT
  obtain ⟨fs, hr, hrun, hended, hW, hsame⟩ := X.leave (v := none) (fun _ => rfl) hlk
  exact ⟨_, _, X.returnOut hx hret hd hr, hrun, hended, _, _, rfl, hq, ⟨_, rfl⟩, hW, hsame.mono hc hs⟩
/-- a method's contract, at one heap and one list of arguments -/
def Con (l : Launch) (y : MethodName) (bytes : ByteArray) (maxL : Nat) (ret : Option FieldType) (rm : Room) (Z : State) (as' : Array Value) (h0 : Heap) (Q : Option Value → Heap → List Loc → Prop) : Prop :=
  ∀ ws, MetFree l y (head1 (Jvm.Cond.code y bytes maxL ret :: ws) rm) (fun a U => a = as' ∧ Z.Warmed39 U.vm ∧ U.heap = h0) (fun _ _ _ _ _ => True) (fun _ U o U' => ∃ v L, o = .returned v ∧ Q v U'.heap L ∧ FrameEnd U o U' L rm.cells rm.slots)
theorem efOf {m : MethodId} {args : Array Value} {n : Nat} {Ls : Array Slot} (h : Jvm.Sym.laidSlots args.toList ++ List.replicate (n - (Jvm.Sym.laidSlots args.toList).length) .unset = Ls.toList) : entryFrame m args n = mkF m 0 Ls [] := by
  have q : argsToLocals args n = Ls := Array.toList_inj.mp (by rw [Jvm.Sym.argsToLocals_toList]; exact h)
  show mkF m 0 (argsToLocals args n) [] = _
  rw [q]
theorem Con.of {y : MethodName} {bytes : ByteArray} {maxL : Nat} {ret : Option FieldType} {rm : Room} {as' : Array Value} {h0 : Heap} (hp : plainFor y = true) {Ls : Array Slot} (hef : ∀ m, entryFrame m as' maxL = mkF m 0 Ls [])
    (body : ∀ {p : Program} {e : Env} {s : State} {m : MethodId} {below : List Frame} {meth : Method} {c : Code} {T : State}, Stand p l e rm s m as' below meth c T [] 0 0 → p.tables.exec = Jvm.exec → Z.Warmed39 s.vm → c.code = bytes → c.maxLocals = maxL → s.vm.findClass y.cls = some m.cls → meth.name = y.name → meth.sig.returnType = ret → meth.locks = false → T.heap = h0 → Ends p e below s Q rm.cells rm.slots T (mkF m 0 Ls [])) :
    Con l y bytes maxL ret rm Z as' h0 Q := by
  intro ws
  refine MetFree.of_bodySF hp hisR ?_
  intro p e s m args below meth c s₁ Bd hml0 hP hK
  obtain ⟨rfl, hZ, hh⟩ := hP
  have X0 : Stand p l e rm s m _ below meth c s₁ [] 0 0 := Stand.of_body Bd
  have e0 : s₁.heap = h0 := by rw [← hh, Bd.state]; rfl
  obtain ⟨s₂, o, h1, r⟩ := body X0 Bd.exec hZ Bd.bytes hml0 (findClass_of_methodNamed Bd.named) (name_of_methodNamed Bd.named Bd.method).1 Bd.returns Bd.notSynchronized e0
  exact ⟨s₂, o, castTop (hef m) h1, r⟩
theorem cStat {own : String} {index : Nat} {y : MethodName} {bytes : ByteArray} {maxL : Nat} {ret : Option FieldType} {rm : Room} {Q' : Option Value → Heap → List Loc → Prop} {pc : Nat} {Ls : Array Slot} {st : List Value}
    (X : Stand p l e R s m args below meth c T locs cells slots) (hx : p.tables.exec = Jvm.exec) (hZ : Z.Warmed39 s.vm) (hown : s.vm.findClass own = some m.cls) (hml : Ls.size = c.maxLocals) (eT : T.heap = h)
    (w1 : (Cond.methodLink own index y).before a0 Z = true) (w2 : (Cond.static y).before a0 Z = true) (w3 : (Cond.initialized y.cls).before a0 Z = true) (w4 : (Cond.code y bytes maxL ret).before a0 Z = true)
    (argsL rest : List Value) {as' : Array Value} (has : argsL.toArray = as') (hM : Con l y bytes maxL ret rm Z as' h Q') (hd : decode c.code pc = .ok (.invokestatic index, 3)) (hst : st = argsL.reverse ++ rest)
    (hlen : ∀ sig, parseMethodDescriptor y.desc = some sig → argsL.length = sig.parameters.length) (hy : y.cls ≠ "java/lang/invoke/MethodHandle" ∧ y.cls ≠ "java/lang/invoke/VarHandle")
    (hf : rm.frames + 1 ≤ R.frames) (hl : (rest.map fun v => v.category).sum + (maxL + 11) + rm.locals ≤ R.locals) (hc : cells + rm.cells ≤ R.cells) (hs : slots + rm.slots ≤ R.slots)
    (k : ∀ v T' h' L, Stand p l e R s m args below meth c T' (locs ++ L) (cells + rm.cells) (slots + rm.slots) → T'.heap = h' → Q' v h' L → Ends p e below s Q rc rs T' (mkF m (pc + 3) Ls (v.toList ++ rest))) :
    Ends p e below s Q rc rs T (mkF m pc Ls st) := by
  subst has
  obtain ⟨v, _, ⟨T', L', k', n'⟩, -, X', ⟨Lc, hQ, e1, e2, e3⟩, stp⟩ := Jvm.LawKit.callS X hx (y := y) hown (mvT hZ w1) (mvT hZ w2) (mvT hZ w3) (mvT hZ w4) hy (backOf (W := (rest.map fun v => v.category).sum) (hM []) hZ w4 w3 hf hl) (g := mkF m pc Ls st) rfl hml (argsL := argsL) (rest := rest) hlen hst (by show 2 * 0 + _ ≤ _; omega) hd (fun _ _ => ⟨rfl, eT, hc, hs⟩)
  dsimp only [Pt.U, Pt.locs, Pt.cells, Pt.slots] at X' e1 e2 e3 stp hQ
  subst e1 e2 e3
  exact go stp (k v T' _ Lc X' rfl hQ)
theorem cInit {own : String} {index : Nat} {y : MethodName} {bytes : ByteArray} {maxL : Nat} {rm : Room} {Q' : Option Value → Heap → List Loc → Prop} {pc : Nat} {Ls : Array Slot} {st : List Value}
    (X : Stand p l e R s m args below meth c T locs cells slots) (hx : p.tables.exec = Jvm.exec) (hZ : Z.Warmed39 s.vm) (hown : s.vm.findClass own = some m.cls) (hml : Ls.size = c.maxLocals) (eT : T.heap = h)
    (w1 : (Cond.methodLink own index y).before a0 Z = true) (w2 : (Cond.instanceMethod y).before a0 Z = true) (w3 : (Cond.initialized y.cls).before a0 Z = true) (w4 : (Cond.code y bytes maxL none).before a0 Z = true)
    (a : Addr) (argsL rest : List Value) {as' : Array Value} (has : (.ref a :: argsL).toArray = as') (hM : Con l y bytes maxL none rm Z as' h Q') (hd : decode c.code pc = .ok (.invokespecial index, 3)) (hst : st = argsL.reverse ++ .ref a :: rest)
    (hlen : ∀ sig, parseMethodDescriptor y.desc = some sig → argsL.length = sig.parameters.length) (hy1 : y.name = "<init>") (hy : y.cls ≠ "java/lang/invoke/MethodHandle" ∧ y.cls ≠ "java/lang/invoke/VarHandle")
    (hf : rm.frames + 1 ≤ R.frames) (hl : (rest.map fun v => v.category).sum + (maxL + 11) + rm.locals ≤ R.locals) (hc : cells + rm.cells ≤ R.cells) (hs : slots + rm.slots ≤ R.slots)
    (k : ∀ v T' h' L, Stand p l e R s m args below meth c T' (locs ++ L) (cells + rm.cells) (slots + rm.slots) → T'.heap = h' → Q' v h' L → Ends p e below s Q rc rs T' (mkF m (pc + 3) Ls (v.toList ++ rest))) :
    Ends p e below s Q rc rs T (mkF m pc Ls st) := by
  subst has
  obtain ⟨v, _, ⟨T', L', k', n'⟩, -, X', ⟨Lc, hQ, e1, e2, e3⟩, stp⟩ := X.specialBack hx (y := y) hy1 hown (mvT hZ w1) (mvT hZ w2) (mvT hZ w4) hy (backOf (W := (rest.map fun v => v.category).sum) (hM []) hZ w4 w3 hf hl) (g := mkF m pc Ls st) rfl hml (Steps.refl _) (a := a) (argsL := argsL) (rest := rest) hlen hst (by show 2 * 0 + _ ≤ _; omega) hd (fun _ _ => ⟨rfl, eT, hc, hs⟩)
  dsimp only [Pt.U, Pt.locs, Pt.cells, Pt.slots] at X' e1 e2 e3 stp hQ
  subst e1 e2 e3
  exact goS stp (k v T' _ Lc X' rfl hQ)
theorem cVirt {own K : String} {index : Nat} {y z : MethodName} {bytes : ByteArray} {maxL : Nat} {ret : Option FieldType} {rm : Room} {Q' : Option Value → Heap → List Loc → Prop} {pc : Nat} {Ls : Array Slot} {st : List Value}
    (X : Stand p l e R s m args below meth c T locs cells slots) (hx : p.tables.exec = Jvm.exec) (hZ : Z.Warmed39 s.vm) (hown : s.vm.findClass own = some m.cls) (hml : Ls.size = c.maxLocals) (eT : T.heap = h)
    (w1 : (Cond.methodLink own index y).before a0 Z = true) (w2 : (Cond.declares y).before a0 Z = true) (w3 : (Cond.selects K y z).before a0 Z = true) (w4 : (Cond.instanceMethod z).before a0 Z = true) (w5 : (Cond.initialized z.cls).before a0 Z = true) (w6 : (Cond.code z bytes maxL ret).before a0 Z = true) (hnf : NotFace s y)
    (a : Addr) (E : Exa Z h a K) (argsL rest : List Value) {as' : Array Value} (has : (.ref a :: argsL).toArray = as') (hM : Con l z bytes maxL ret rm Z as' h Q') (hd : decode c.code pc = .ok (.invokevirtual index, 3)) (hst : st = argsL.reverse ++ .ref a :: rest)
    (hlen : ∀ sig, parseMethodDescriptor y.desc = some sig → argsL.length = sig.parameters.length) (hy : y.cls ≠ "java/lang/invoke/MethodHandle" ∧ y.cls ≠ "java/lang/invoke/VarHandle")
    (hf : rm.frames + 1 ≤ R.frames) (hl : (rest.map fun v => v.category).sum + (maxL + 11) + rm.locals ≤ R.locals) (hc : cells + rm.cells ≤ R.cells) (hs : slots + rm.slots ≤ R.slots)
    (k : ∀ v T' h' L, Stand p l e R s m args below meth c T' (locs ++ L) (cells + rm.cells) (slots + rm.slots) → T'.heap = h' → Q' v h' L → Ends p e below s Q rc rs T' (mkF m (pc + 3) Ls (v.toList ++ rest))) :
    Ends p e below s Q rc rs T (mkF m pc Ls st) := by
  subst has
  obtain ⟨cq, kq, qa, qb, qc⟩ := isOf hZ eT E
  obtain ⟨v, _, ⟨T', L', k', n'⟩, -, X', ⟨Lc, hQ, e1, e2, e3⟩, stp⟩ := X.virtualBack hx (y := y) (z := z) hown (mvT hZ w1) (mvT hZ w2) hnf (mvT hZ w3) (mvT hZ w4) hy (backOf (W := (rest.map fun v => v.category).sum) (hM []) hZ w6 w5 hf hl) qa qc (g := mkF m pc Ls st) rfl hml (Steps.refl _) (argsL := argsL) (rest := rest) hlen hst (by show 2 * 0 + _ ≤ _; omega) hd (fun _ _ => ⟨rfl, eT, hc, hs⟩)
  dsimp only [Pt.U, Pt.locs, Pt.cells, Pt.slots] at X' e1 e2 e3 stp hQ
  subst e1 e2 e3
  exact goS stp (k v T' _ Lc X' rfl hQ)
theorem cFace {own K : String} {index count : Nat} {y z : MethodName} {bytes : ByteArray} {maxL : Nat} {ret : Option FieldType} {rm : Room} {Q' : Option Value → Heap → List Loc → Prop} {pc : Nat} {Ls : Array Slot} {st : List Value}
    (X : Stand p l e R s m args below meth c T locs cells slots) (hx : p.tables.exec = Jvm.exec) (hZ : Z.Warmed39 s.vm) (hown : s.vm.findClass own = some m.cls) (hml : Ls.size = c.maxLocals) (eT : T.heap = h)
    (w1 : (Cond.methodLink own index y).before a0 Z = true) (w2 : (Cond.declares y).before a0 Z = true) (wf : (Cond.interfaceMethod y.cls y.cls y.name y.desc).before args s = true) (w3 : (Cond.selects K y z).before a0 Z = true) (w4 : (Cond.instanceMethod z).before a0 Z = true) (wp : (Cond.publicMethod z).before a0 Z = true) (wu : (Cond.unhidden K y.name y.desc).before args s = true) (wc : (Cond.castable K y.cls).before a0 Z = true) (w5 : (Cond.initialized z.cls).before a0 Z = true) (w6 : (Cond.code z bytes maxL ret).before a0 Z = true)
    (a : Addr) (E : Exa Z h a K) (argsL rest : List Value) {as' : Array Value} (has : (.ref a :: argsL).toArray = as') (hM : Con l z bytes maxL ret rm Z as' h Q') (hd : decode c.code pc = .ok (.invokeinterface index count, 5)) (hst : st = argsL.reverse ++ .ref a :: rest)
    (hlen : ∀ sig, parseMethodDescriptor y.desc = some sig → argsL.length = sig.parameters.length) (hy : y.cls ≠ "java/lang/invoke/MethodHandle" ∧ y.cls ≠ "java/lang/invoke/VarHandle")
    (hf : rm.frames + 1 ≤ R.frames) (hl : (rest.map fun v => v.category).sum + (maxL + 11) + rm.locals ≤ R.locals) (hc : cells + rm.cells ≤ R.cells) (hs : slots + rm.slots ≤ R.slots)
    (k : ∀ v T' h' L, Stand p l e R s m args below meth c T' (locs ++ L) (cells + rm.cells) (slots + rm.slots) → T'.heap = h' → Q' v h' L → Ends p e below s Q rc rs T' (mkF m (pc + 5) Ls (v.toList ++ rest))) :
    Ends p e below s Q rc rs T (mkF m pc Ls st) := by
  subst has
  obtain ⟨cq, kq, qa, qb, qc⟩ := isOf hZ eT E
  obtain ⟨v, _, ⟨T', L', k', n'⟩, -, X', ⟨Lc, hQ, e1, e2, e3⟩, stp⟩ := X.interfaceBack hx (xi := y) (y := z) hown (mvT hZ w1) (mvT hZ w2) wf (mvT hZ w3) (mvT hZ w4) (mvT hZ wp) wu (mvT hZ wc) hy (backOf (W := (rest.map fun v => v.category).sum) (hM []) hZ w6 w5 hf hl) qa qb qc (g := mkF m pc Ls st) rfl hml (Steps.refl _) (argsL := argsL) (rest := rest) hlen hst (by show 2 * 0 + _ ≤ _; omega) hd (fun _ _ => ⟨rfl, eT, hc, hs⟩)
  dsimp only [Pt.U, Pt.locs, Pt.cells, Pt.slots] at X' e1 e2 e3 stp hQ
  subst e1 e2 e3
  exact goS stp (k v T' _ Lc X' rfl hQ)
theorem cPriv {own K : String} {index nn : Nat} {y : MethodName} {bytes : ByteArray} {maxL : Nat} {ret : Option FieldType} {rm : Room} {Q' : Option Value → Heap → List Loc → Prop} {pc : Nat} {Ls : Array Slot} {st : List Value}
    (X : Stand p l e R s m args below meth c T locs cells slots) (hx : p.tables.exec = Jvm.exec) (hZ : Z.Warmed39 s.vm) (hown : s.vm.findClass own = some m.cls) (hml : Ls.size = c.maxLocals) (eT : T.heap = h)
    (w1 : (Cond.methodLink own index y).before a0 Z = true) (w2 : (Cond.instanceMethod y).before a0 Z = true) (w3 : (Cond.privateMethod y).before a0 Z = true) (w4 : (Cond.instantiable y.cls nn).before a0 Z = true) (w5 : (Cond.initialized y.cls).before a0 Z = true) (w6 : (Cond.code y bytes maxL ret).before a0 Z = true)
    (a : Addr) (E : Exa Z h a K) (argsL rest : List Value) {as' : Array Value} (has : (.ref a :: argsL).toArray = as') (hM : Con l y bytes maxL ret rm Z as' h Q') (hd : decode c.code pc = .ok (.invokevirtual index, 3)) (hst : st = argsL.reverse ++ .ref a :: rest)
    (hlen : ∀ sig, parseMethodDescriptor y.desc = some sig → argsL.length = sig.parameters.length) (hy : y.cls ≠ "java/lang/invoke/MethodHandle" ∧ y.cls ≠ "java/lang/invoke/VarHandle")
    (hf : rm.frames + 1 ≤ R.frames) (hl : (rest.map fun v => v.category).sum + (maxL + 11) + rm.locals ≤ R.locals) (hc : cells + rm.cells ≤ R.cells) (hs : slots + rm.slots ≤ R.slots)
    (k : ∀ v T' h' L, Stand p l e R s m args below meth c T' (locs ++ L) (cells + rm.cells) (slots + rm.slots) → T'.heap = h' → Q' v h' L → Ends p e below s Q rc rs T' (mkF m (pc + 3) Ls (v.toList ++ rest))) :
    Ends p e below s Q rc rs T (mkF m pc Ls st) := by
  subst has
  obtain ⟨cell, q1, q2⟩ := E.cell
  have hpr := Cond.privateMethod_at (mvP hZ w3 (args := #[]))
  obtain ⟨cc, kc, i1, i2, -, i4, -⟩ := Cond.instantiable_spec (mvT (args := args) hZ w4)
  have hni : kc.isInterface = false := by
    cases hq : kc.isInterface with
    | false => rfl
    | true => rw [hq] at i4; simp at i4
  have hsel := Jvm.Stand.selects_self_of_private (args := args) i1 i2 hni hpr (mvT hZ w2) hy
  obtain ⟨v, _, ⟨T', L', k', n'⟩, -, X', ⟨Lc, hQ, e1, e2, e3⟩, stp⟩ := X.privateBack hx (y := y) hown (mvT hZ w1) (mvT hZ w2) hsel hpr (mvT hZ w6) hy (backOf (W := (rest.map fun v => v.category).sum) (hM []) hZ w6 w5 hf hl) (g := mkF m pc Ls st) rfl hml (Steps.refl _) (a := a) (by rw [eT]; exact q1) q2 (argsL := argsL) (rest := rest) hlen hst (by show 2 * 0 + _ ≤ _; omega) hd (fun _ _ => ⟨rfl, eT, hc, hs⟩)
  dsimp only [Pt.U, Pt.locs, Pt.cells, Pt.slots] at X' e1 e2 e3 stp hQ
  subst e1 e2 e3
  exact goS stp (k v T' _ Lc X' rfl hQ)
theorem xx (O : Ext Z.heap h) (E : Ext h h') : Ext Z.heap h' := ⟨Nat.le_trans O.1 E.1, fun a c q => E.2 _ _ (O.2 _ _ q)⟩
theorem xk {ws : List Addr} (O : Ext Z.heap h) (K : Keep h h' ws) (q : ∀ x ∈ ws, Z.heap.size ≤ x) : Ext Z.heap h' := (Old.keep ⟨rfl, O⟩ K q).2
theorem xw {a : Addr} {sl : Nat} {v : Value} (O : Ext Z.heap h) (W : Wr h h' a sl v) (q : Z.heap.size ≤ a) : Ext Z.heap h' := (Old.wr ⟨rfl, O⟩ W q).2
theorem ke (E : Ext h h') : Keep h h' [] := (Keep.refl h []).ext E
theorem ek (K : Keep h h' []) : Ext h h' := ⟨K.1, fun a c q => K.2.1 a c q nin0⟩
end Own
theorem pn_0 : plainName "com/example/libtbox/libtbox/core/SparseBitSet" = true := by first | (simp [plainName, overriddenIn]; done) | decide +kernel
theorem d0_0 : decode prog_51_method_1_code 0 = .ok (.aload_n 0, 1) := by decide +kernel
theorem d0_1 : decode prog_51_method_1_code 1 = .ok (.invokespecial 1, 3) := by decide +kernel
theorem d0_4 : decode prog_51_method_1_code 4 = .ok (.aload_n 0, 1) := by decide +kernel
theorem d0_5 : decode prog_51_method_1_code 5 = .ok (.getstatic 7, 3) := by decide +kernel
theorem d0_8 : decode prog_51_method_1_code 8 = .ok (.putfield 13, 3) := by decide +kernel
theorem d0_11 : decode prog_51_method_1_code 11 = .ok (.aload_n 0, 1) := by decide +kernel
theorem d0_12 : decode prog_51_method_1_code 12 = .ok (.getstatic 16, 3) := by decide +kernel
theorem d0_15 : decode prog_51_method_1_code 15 = .ok (.putfield 20, 3) := by decide +kernel
theorem d0_18 : decode prog_51_method_1_code 18 = .ok (.return_, 1) := by decide +kernel
theorem d1_0 : decode jdk_29_method_65_code 0 = .ok (.iload_n 0, 1) := by decide +kernel
theorem d1_1 : decode jdk_29_method_65_code 1 = .ok (.iload_n 1, 1) := by decide +kernel
theorem d1_2 : decode jdk_29_method_65_code 2 = .ok (.if_icmp .lt 7, 3) := by decide +kernel
theorem d1_5 : decode jdk_29_method_65_code 5 = .ok (.iload_n 0, 1) := by decide +kernel
theorem d1_6 : decode jdk_29_method_65_code 6 = .ok (.goto 4, 3) := by decide +kernel
theorem d1_10 : decode jdk_29_method_65_code 10 = .ok (.ireturn, 1) := by decide +kernel
theorem d1_9 : decode jdk_29_method_65_code 9 = .ok (.iload_n 1, 1) := by decide +kernel
theorem d2_0 : decode jdk_29_method_69_code 0 = .ok (.iload_n 0, 1) := by decide +kernel
theorem d2_1 : decode jdk_29_method_69_code 1 = .ok (.iload_n 1, 1) := by decide +kernel
theorem d2_2 : decode jdk_29_method_69_code 2 = .ok (.if_icmp .gt 7, 3) := by decide +kernel
theorem d2_5 : decode jdk_29_method_69_code 5 = .ok (.iload_n 0, 1) := by decide +kernel
theorem d2_6 : decode jdk_29_method_69_code 6 = .ok (.goto 4, 3) := by decide +kernel
theorem d2_10 : decode jdk_29_method_69_code 10 = .ok (.ireturn, 1) := by decide +kernel
theorem pn_1 : plainName "java/util/Arrays" = true := by first | (simp [plainName, overriddenIn]; done) | decide +kernel
theorem d3_0 : decode jdk_65_method_123_code 0 = .ok (.iload_n 1, 1) := by decide +kernel
theorem d3_1 : decode jdk_65_method_123_code 1 = .ok (.aload_n 0, 1) := by decide +kernel
theorem d3_2 : decode jdk_65_method_123_code 2 = .ok (.arraylength, 1) := by decide +kernel
theorem d3_3 : decode jdk_65_method_123_code 3 = .ok (.if_icmp .ne 11, 3) := by decide +kernel
theorem d3_14 : decode jdk_65_method_123_code 14 = .ok (.iload_n 1, 1) := by decide +kernel
theorem d3_15 : decode jdk_65_method_123_code 15 = .ok (.newarray .int, 2) := by decide +kernel
theorem d3_17 : decode jdk_65_method_123_code 17 = .ok (.astore_n 2, 1) := by decide +kernel
theorem d3_18 : decode jdk_65_method_123_code 18 = .ok (.aload_n 0, 1) := by decide +kernel
theorem d3_19 : decode jdk_65_method_123_code 19 = .ok (.iconst 0, 1) := by decide +kernel
theorem d3_20 : decode jdk_65_method_123_code 20 = .ok (.aload_n 2, 1) := by decide +kernel
theorem d3_21 : decode jdk_65_method_123_code 21 = .ok (.iconst 0, 1) := by decide +kernel
theorem d3_22 : decode jdk_65_method_123_code 22 = .ok (.aload_n 0, 1) := by decide +kernel
theorem d3_23 : decode jdk_65_method_123_code 23 = .ok (.arraylength, 1) := by decide +kernel
theorem d3_24 : decode jdk_65_method_123_code 24 = .ok (.iload_n 1, 1) := by decide +kernel
theorem d3_25 : decode jdk_65_method_123_code 25 = .ok (.invokestatic 304, 3) := by decide +kernel
theorem pd_2 : parseMethodDescriptor "(II)I" = some ⟨[.int, .int], some .int⟩ := by decide +kernel
theorem d3_28 : decode jdk_65_method_123_code 28 = .ok (.invokestatic 150, 3) := by decide +kernel
theorem d3_31 : decode jdk_65_method_123_code 31 = .ok (.aload_n 2, 1) := by decide +kernel
theorem d3_32 : decode jdk_65_method_123_code 32 = .ok (.areturn, 1) := by decide +kernel
theorem d4_0 : decode jdk_65_method_124_code 0 = .ok (.iload_n 1, 1) := by decide +kernel
theorem d4_1 : decode jdk_65_method_124_code 1 = .ok (.aload_n 0, 1) := by decide +kernel
theorem d4_2 : decode jdk_65_method_124_code 2 = .ok (.arraylength, 1) := by decide +kernel
theorem d4_3 : decode jdk_65_method_124_code 3 = .ok (.if_icmp .ne 11, 3) := by decide +kernel
theorem d4_14 : decode jdk_65_method_124_code 14 = .ok (.iload_n 1, 1) := by decide +kernel
theorem d4_15 : decode jdk_65_method_124_code 15 = .ok (.newarray .long, 2) := by decide +kernel
theorem d4_17 : decode jdk_65_method_124_code 17 = .ok (.astore_n 2, 1) := by decide +kernel
theorem d4_18 : decode jdk_65_method_124_code 18 = .ok (.aload_n 0, 1) := by decide +kernel
theorem d4_19 : decode jdk_65_method_124_code 19 = .ok (.iconst 0, 1) := by decide +kernel
theorem d4_20 : decode jdk_65_method_124_code 20 = .ok (.aload_n 2, 1) := by decide +kernel
theorem d4_21 : decode jdk_65_method_124_code 21 = .ok (.iconst 0, 1) := by decide +kernel
theorem d4_22 : decode jdk_65_method_124_code 22 = .ok (.aload_n 0, 1) := by decide +kernel
theorem d4_23 : decode jdk_65_method_124_code 23 = .ok (.arraylength, 1) := by decide +kernel
theorem d4_24 : decode jdk_65_method_124_code 24 = .ok (.iload_n 1, 1) := by decide +kernel
theorem d4_25 : decode jdk_65_method_124_code 25 = .ok (.invokestatic 304, 3) := by decide +kernel
theorem d4_28 : decode jdk_65_method_124_code 28 = .ok (.invokestatic 150, 3) := by decide +kernel
theorem d4_31 : decode jdk_65_method_124_code 31 = .ok (.aload_n 2, 1) := by decide +kernel
theorem d4_32 : decode jdk_65_method_124_code 32 = .ok (.areturn, 1) := by decide +kernel
theorem d5_0 : decode prog_51_method_20_code 0 = .ok (.iload_n 1, 1) := by decide +kernel
theorem d5_1 : decode prog_51_method_20_code 1 = .ok (.aload_n 0, 1) := by decide +kernel
theorem d5_2 : decode prog_51_method_20_code 2 = .ok (.getfield 13, 3) := by decide +kernel
theorem d5_5 : decode prog_51_method_20_code 5 = .ok (.arraylength, 1) := by decide +kernel
theorem d5_6 : decode prog_51_method_20_code 6 = .ok (.if_icmp .le 43, 3) := by decide +kernel
theorem d5_9 : decode prog_51_method_20_code 9 = .ok (.iload_n 1, 1) := by decide +kernel
theorem d5_10 : decode prog_51_method_20_code 10 = .ok (.iconst 2, 1) := by decide +kernel
theorem d5_11 : decode prog_51_method_20_code 11 = .ok (.aload_n 0, 1) := by decide +kernel
theorem d5_12 : decode prog_51_method_20_code 12 = .ok (.getfield 13, 3) := by decide +kernel
theorem d5_15 : decode prog_51_method_20_code 15 = .ok (.arraylength, 1) := by decide +kernel
theorem d5_16 : decode prog_51_method_20_code 16 = .ok (.iconst 2, 1) := by decide +kernel
theorem d5_17 : decode prog_51_method_20_code 17 = .ok (.imul, 1) := by decide +kernel
theorem d5_18 : decode prog_51_method_20_code 18 = .ok (.invokestatic 101, 3) := by decide +kernel
theorem d5_21 : decode prog_51_method_20_code 21 = .ok (.invokestatic 101, 3) := by decide +kernel
theorem d5_24 : decode prog_51_method_20_code 24 = .ok (.istore_n 2, 1) := by decide +kernel
theorem d5_25 : decode prog_51_method_20_code 25 = .ok (.aload_n 0, 1) := by decide +kernel
theorem d5_26 : decode prog_51_method_20_code 26 = .ok (.aload_n 0, 1) := by decide +kernel
theorem d5_27 : decode prog_51_method_20_code 27 = .ok (.getfield 13, 3) := by decide +kernel
theorem d5_30 : decode prog_51_method_20_code 30 = .ok (.iload_n 2, 1) := by decide +kernel
theorem d5_31 : decode prog_51_method_20_code 31 = .ok (.invokestatic 107, 3) := by decide +kernel
theorem pd_3 : parseMethodDescriptor "([II)[I" = some ⟨[(.array .int), .int], some (.array .int)⟩ := by decide +kernel
theorem d5_34 : decode prog_51_method_20_code 34 = .ok (.putfield 13, 3) := by decide +kernel
theorem d5_37 : decode prog_51_method_20_code 37 = .ok (.aload_n 0, 1) := by decide +kernel
theorem d5_38 : decode prog_51_method_20_code 38 = .ok (.aload_n 0, 1) := by decide +kernel
theorem d5_39 : decode prog_51_method_20_code 39 = .ok (.getfield 20, 3) := by decide +kernel
theorem d5_42 : decode prog_51_method_20_code 42 = .ok (.iload_n 2, 1) := by decide +kernel
theorem d5_43 : decode prog_51_method_20_code 43 = .ok (.invokestatic 111, 3) := by decide +kernel
theorem pd_4 : parseMethodDescriptor "([JI)[J" = some ⟨[(.array .long), .int], some (.array .long)⟩ := by decide +kernel
theorem d5_46 : decode prog_51_method_20_code 46 = .ok (.putfield 20, 3) := by decide +kernel
theorem d5_49 : decode prog_51_method_20_code 49 = .ok (.return_, 1) := by decide +kernel
theorem d6_0 : decode prog_51_method_19_code 0 = .ok (.aload_n 0, 1) := by decide +kernel
theorem d6_1 : decode prog_51_method_19_code 1 = .ok (.aload_n 0, 1) := by decide +kernel
theorem d6_2 : decode prog_51_method_19_code 2 = .ok (.getfield 27, 3) := by decide +kernel
theorem d6_5 : decode prog_51_method_19_code 5 = .ok (.iconst 1, 1) := by decide +kernel
theorem d6_6 : decode prog_51_method_19_code 6 = .ok (.iadd, 1) := by decide +kernel
theorem d6_7 : decode prog_51_method_19_code 7 = .ok (.invokevirtual 36, 3) := by decide +kernel
theorem pd_5 : parseMethodDescriptor "(I)V" = some ⟨[.int], none⟩ := by decide +kernel
theorem d6_10 : decode prog_51_method_19_code 10 = .ok (.aload_n 0, 1) := by decide +kernel
theorem d6_11 : decode prog_51_method_19_code 11 = .ok (.getfield 13, 3) := by decide +kernel
theorem d6_14 : decode prog_51_method_19_code 14 = .ok (.iload_n 1, 1) := by decide +kernel
theorem d6_15 : decode prog_51_method_19_code 15 = .ok (.aload_n 0, 1) := by decide +kernel
theorem d6_16 : decode prog_51_method_19_code 16 = .ok (.getfield 13, 3) := by decide +kernel
theorem d6_19 : decode prog_51_method_19_code 19 = .ok (.iload_n 1, 1) := by decide +kernel
theorem d6_20 : decode prog_51_method_19_code 20 = .ok (.iconst 1, 1) := by decide +kernel
theorem d6_21 : decode prog_51_method_19_code 21 = .ok (.iadd, 1) := by decide +kernel
theorem d6_22 : decode prog_51_method_19_code 22 = .ok (.aload_n 0, 1) := by decide +kernel
theorem d6_23 : decode prog_51_method_19_code 23 = .ok (.getfield 27, 3) := by decide +kernel
theorem d6_26 : decode prog_51_method_19_code 26 = .ok (.iload_n 1, 1) := by decide +kernel
theorem d6_27 : decode prog_51_method_19_code 27 = .ok (.isub, 1) := by decide +kernel
theorem d6_28 : decode prog_51_method_19_code 28 = .ok (.invokestatic 46, 3) := by decide +kernel
theorem d6_31 : decode prog_51_method_19_code 31 = .ok (.aload_n 0, 1) := by decide +kernel
theorem d6_32 : decode prog_51_method_19_code 32 = .ok (.getfield 20, 3) := by decide +kernel
theorem d6_35 : decode prog_51_method_19_code 35 = .ok (.iload_n 1, 1) := by decide +kernel
theorem d6_36 : decode prog_51_method_19_code 36 = .ok (.aload_n 0, 1) := by decide +kernel
theorem d6_37 : decode prog_51_method_19_code 37 = .ok (.getfield 20, 3) := by decide +kernel
theorem d6_40 : decode prog_51_method_19_code 40 = .ok (.iload_n 1, 1) := by decide +kernel
theorem d6_41 : decode prog_51_method_19_code 41 = .ok (.iconst 1, 1) := by decide +kernel
theorem d6_42 : decode prog_51_method_19_code 42 = .ok (.iadd, 1) := by decide +kernel
theorem d6_43 : decode prog_51_method_19_code 43 = .ok (.aload_n 0, 1) := by decide +kernel
theorem d6_44 : decode prog_51_method_19_code 44 = .ok (.getfield 27, 3) := by decide +kernel
theorem d6_47 : decode prog_51_method_19_code 47 = .ok (.iload_n 1, 1) := by decide +kernel
theorem d6_48 : decode prog_51_method_19_code 48 = .ok (.isub, 1) := by decide +kernel
theorem d6_49 : decode prog_51_method_19_code 49 = .ok (.invokestatic 46, 3) := by decide +kernel
theorem d6_52 : decode prog_51_method_19_code 52 = .ok (.aload_n 0, 1) := by decide +kernel
theorem d6_53 : decode prog_51_method_19_code 53 = .ok (.getfield 13, 3) := by decide +kernel
theorem d6_56 : decode prog_51_method_19_code 56 = .ok (.iload_n 1, 1) := by decide +kernel
theorem d6_57 : decode prog_51_method_19_code 57 = .ok (.iload_n 2, 1) := by decide +kernel
theorem d6_58 : decode prog_51_method_19_code 58 = .ok (.iastore, 1) := by decide +kernel
theorem d6_59 : decode prog_51_method_19_code 59 = .ok (.aload_n 0, 1) := by decide +kernel
theorem d6_60 : decode prog_51_method_19_code 60 = .ok (.getfield 20, 3) := by decide +kernel
theorem d6_63 : decode prog_51_method_19_code 63 = .ok (.iload_n 1, 1) := by decide +kernel
theorem d6_64 : decode prog_51_method_19_code 64 = .ok (.lconst 0, 1) := by decide +kernel
theorem d6_65 : decode prog_51_method_19_code 65 = .ok (.lastore, 1) := by decide +kernel
theorem d6_66 : decode prog_51_method_19_code 66 = .ok (.aload_n 0, 1) := by decide +kernel
theorem d6_67 : decode prog_51_method_19_code 67 = .ok (.dup, 1) := by decide +kernel
theorem d6_68 : decode prog_51_method_19_code 68 = .ok (.getfield 27, 3) := by decide +kernel
theorem d6_71 : decode prog_51_method_19_code 71 = .ok (.iconst 1, 1) := by decide +kernel
theorem d6_72 : decode prog_51_method_19_code 72 = .ok (.iadd, 1) := by decide +kernel
theorem d6_73 : decode prog_51_method_19_code 73 = .ok (.putfield 27, 3) := by decide +kernel
theorem d6_76 : decode prog_51_method_19_code 76 = .ok (.return_, 1) := by decide +kernel
theorem d7_0 : decode prog_51_method_18_code 0 = .ok (.aload_n 0, 1) := by decide +kernel
theorem d7_1 : decode prog_51_method_18_code 1 = .ok (.getfield 94, 3) := by decide +kernel
theorem d7_4 : decode prog_51_method_18_code 4 = .ok (.istore_n 2, 1) := by decide +kernel
theorem d7_5 : decode prog_51_method_18_code 5 = .ok (.iload_n 2, 1) := by decide +kernel
theorem d7_6 : decode prog_51_method_18_code 6 = .ok (.aload_n 0, 1) := by decide +kernel
theorem d7_7 : decode prog_51_method_18_code 7 = .ok (.getfield 27, 3) := by decide +kernel
theorem d7_10 : decode prog_51_method_18_code 10 = .ok (.if_icmp .ge 72, 3) := by decide +kernel
theorem d7_82 : decode prog_51_method_18_code 82 = .ok (.aload_n 0, 1) := by decide +kernel
theorem d7_83 : decode prog_51_method_18_code 83 = .ok (.getfield 27, 3) := by decide +kernel
theorem d7_86 : decode prog_51_method_18_code 86 = .ok (.ifCond .eq 13, 3) := by decide +kernel
theorem d7_99 : decode prog_51_method_18_code 99 = .ok (.iconst (-1), 1) := by decide +kernel
theorem d7_100 : decode prog_51_method_18_code 100 = .ok (.ireturn, 1) := by decide +kernel
theorem d7_13 : decode prog_51_method_18_code 13 = .ok (.aload_n 0, 1) := by decide +kernel
theorem d7_14 : decode prog_51_method_18_code 14 = .ok (.getfield 13, 3) := by decide +kernel
theorem d7_17 : decode prog_51_method_18_code 17 = .ok (.iload_n 2, 1) := by decide +kernel
theorem d7_18 : decode prog_51_method_18_code 18 = .ok (.iaload, 1) := by decide +kernel
theorem d7_19 : decode prog_51_method_18_code 19 = .ok (.iload_n 1, 1) := by decide +kernel
theorem d7_20 : decode prog_51_method_18_code 20 = .ok (.if_icmp .gt 62, 3) := by decide +kernel
theorem d7_89 : decode prog_51_method_18_code 89 = .ok (.iload_n 1, 1) := by decide +kernel
theorem d7_90 : decode prog_51_method_18_code 90 = .ok (.aload_n 0, 1) := by decide +kernel
theorem d7_91 : decode prog_51_method_18_code 91 = .ok (.getfield 13, 3) := by decide +kernel
theorem d7_94 : decode prog_51_method_18_code 94 = .ok (.iconst 0, 1) := by decide +kernel
theorem d7_95 : decode prog_51_method_18_code 95 = .ok (.iaload, 1) := by decide +kernel
theorem d7_96 : decode prog_51_method_18_code 96 = .ok (.if_icmp .ge 5, 3) := by decide +kernel
theorem d7_23 : decode prog_51_method_18_code 23 = .ok (.iload_n 2, 1) := by decide +kernel
theorem d7_24 : decode prog_51_method_18_code 24 = .ok (.iconst 1, 1) := by decide +kernel
theorem d7_25 : decode prog_51_method_18_code 25 = .ok (.iadd, 1) := by decide +kernel
theorem d7_26 : decode prog_51_method_18_code 26 = .ok (.istore_n 3, 1) := by decide +kernel
theorem d7_27 : decode prog_51_method_18_code 27 = .ok (.aload_n 0, 1) := by decide +kernel
theorem d7_28 : decode prog_51_method_18_code 28 = .ok (.getfield 13, 3) := by decide +kernel
theorem d7_31 : decode prog_51_method_18_code 31 = .ok (.iload_n 2, 1) := by decide +kernel
theorem d7_32 : decode prog_51_method_18_code 32 = .ok (.iaload, 1) := by decide +kernel
theorem d7_33 : decode prog_51_method_18_code 33 = .ok (.iload_n 1, 1) := by decide +kernel
theorem d7_34 : decode prog_51_method_18_code 34 = .ok (.if_icmp .ne 5, 3) := by decide +kernel
theorem d7_37 : decode prog_51_method_18_code 37 = .ok (.iload_n 2, 1) := by decide +kernel
theorem d7_38 : decode prog_51_method_18_code 38 = .ok (.ireturn, 1) := by decide +kernel
theorem d7_39 : decode prog_51_method_18_code 39 = .ok (.iload_n 3, 1) := by decide +kernel
theorem d7_40 : decode prog_51_method_18_code 40 = .ok (.aload_n 0, 1) := by decide +kernel
theorem d7_41 : decode prog_51_method_18_code 41 = .ok (.getfield 27, 3) := by decide +kernel
theorem d7_44 : decode prog_51_method_18_code 44 = .ok (.if_icmp .eq 13, 3) := by decide +kernel
theorem d7_57 : decode prog_51_method_18_code 57 = .ok (.iload_n 3, 1) := by decide +kernel
theorem d7_58 : decode prog_51_method_18_code 58 = .ok (.ineg, 1) := by decide +kernel
theorem d7_59 : decode prog_51_method_18_code 59 = .ok (.iconst 1, 1) := by decide +kernel
theorem d7_60 : decode prog_51_method_18_code 60 = .ok (.isub, 1) := by decide +kernel
theorem d7_61 : decode prog_51_method_18_code 61 = .ok (.ireturn, 1) := by decide +kernel
theorem d8_0 : decode jdk_65_method_30_code 0 = .ok (.iload_n 1, 1) := by decide +kernel
theorem d8_1 : decode jdk_65_method_30_code 1 = .ok (.iload_n 2, 1) := by decide +kernel
theorem d8_2 : decode jdk_65_method_30_code 2 = .ok (.if_icmp .le 44, 3) := by decide +kernel
theorem d8_46 : decode jdk_65_method_30_code 46 = .ok (.iload_n 1, 1) := by decide +kernel
theorem d8_47 : decode jdk_65_method_30_code 47 = .ok (.ifCond .ge 12, 3) := by decide +kernel
theorem d8_59 : decode jdk_65_method_30_code 59 = .ok (.iload_n 2, 1) := by decide +kernel
theorem d8_60 : decode jdk_65_method_30_code 60 = .ok (.iload_n 0, 1) := by decide +kernel
theorem d8_61 : decode jdk_65_method_30_code 61 = .ok (.if_icmp .le 12, 3) := by decide +kernel
theorem d8_73 : decode jdk_65_method_30_code 73 = .ok (.return_, 1) := by decide +kernel
theorem d9_0 : decode jdk_65_method_59_code 0 = .ok (.iload_n 1, 1) := by decide +kernel
theorem d9_1 : decode jdk_65_method_59_code 1 = .ok (.istore 4, 2) := by decide +kernel
theorem d9_3 : decode jdk_65_method_59_code 3 = .ok (.iload_n 2, 1) := by decide +kernel
theorem d9_4 : decode jdk_65_method_59_code 4 = .ok (.iconst 1, 1) := by decide +kernel
theorem d9_5 : decode jdk_65_method_59_code 5 = .ok (.isub, 1) := by decide +kernel
theorem d9_6 : decode jdk_65_method_59_code 6 = .ok (.istore 5, 2) := by decide +kernel
theorem d9_8 : decode jdk_65_method_59_code 8 = .ok (.iload 4, 2) := by decide +kernel
theorem d9_10 : decode jdk_65_method_59_code 10 = .ok (.iload 5, 2) := by decide +kernel
theorem d9_12 : decode jdk_65_method_59_code 12 = .ok (.if_icmp .gt 54, 3) := by decide +kernel
theorem d9_15 : decode jdk_65_method_59_code 15 = .ok (.iload 4, 2) := by decide +kernel
theorem d9_17 : decode jdk_65_method_59_code 17 = .ok (.iload 5, 2) := by decide +kernel
theorem d9_19 : decode jdk_65_method_59_code 19 = .ok (.iadd, 1) := by decide +kernel
theorem d9_20 : decode jdk_65_method_59_code 20 = .ok (.iconst 1, 1) := by decide +kernel
theorem d9_21 : decode jdk_65_method_59_code 21 = .ok (.iushr, 1) := by decide +kernel
theorem d9_22 : decode jdk_65_method_59_code 22 = .ok (.istore 6, 2) := by decide +kernel
theorem d9_24 : decode jdk_65_method_59_code 24 = .ok (.aload_n 0, 1) := by decide +kernel
theorem d9_25 : decode jdk_65_method_59_code 25 = .ok (.iload 6, 2) := by decide +kernel
theorem d9_27 : decode jdk_65_method_59_code 27 = .ok (.iaload, 1) := by decide +kernel
theorem d9_28 : decode jdk_65_method_59_code 28 = .ok (.istore 7, 2) := by decide +kernel
theorem d9_30 : decode jdk_65_method_59_code 30 = .ok (.iload 7, 2) := by decide +kernel
theorem d9_32 : decode jdk_65_method_59_code 32 = .ok (.iload_n 3, 1) := by decide +kernel
theorem d9_33 : decode jdk_65_method_59_code 33 = .ok (.if_icmp .ge 12, 3) := by decide +kernel
theorem d9_36 : decode jdk_65_method_59_code 36 = .ok (.iload 6, 2) := by decide +kernel
theorem d9_38 : decode jdk_65_method_59_code 38 = .ok (.iconst 1, 1) := by decide +kernel
theorem d9_39 : decode jdk_65_method_59_code 39 = .ok (.iadd, 1) := by decide +kernel
theorem d9_40 : decode jdk_65_method_59_code 40 = .ok (.istore 4, 2) := by decide +kernel
theorem d9_42 : decode jdk_65_method_59_code 42 = .ok (.goto 21, 3) := by decide +kernel
theorem d9_63 : decode jdk_65_method_59_code 63 = .ok (.goto (-55), 3) := by decide +kernel
theorem d9_66 : decode jdk_65_method_59_code 66 = .ok (.iload 4, 2) := by decide +kernel
theorem d9_68 : decode jdk_65_method_59_code 68 = .ok (.iconst 1, 1) := by decide +kernel
theorem d9_69 : decode jdk_65_method_59_code 69 = .ok (.iadd, 1) := by decide +kernel
theorem d9_70 : decode jdk_65_method_59_code 70 = .ok (.ineg, 1) := by decide +kernel
theorem d9_71 : decode jdk_65_method_59_code 71 = .ok (.ireturn, 1) := by decide +kernel
theorem d10_0 : decode jdk_65_method_58_code 0 = .ok (.aload_n 0, 1) := by decide +kernel
theorem d10_1 : decode jdk_65_method_58_code 1 = .ok (.arraylength, 1) := by decide +kernel
theorem d10_2 : decode jdk_65_method_58_code 2 = .ok (.iload_n 1, 1) := by decide +kernel
theorem d10_3 : decode jdk_65_method_58_code 3 = .ok (.iload_n 2, 1) := by decide +kernel
theorem d10_4 : decode jdk_65_method_58_code 4 = .ok (.invokestatic 13, 3) := by decide +kernel
theorem pd_6 : parseMethodDescriptor "(III)V" = some ⟨[.int, .int, .int], none⟩ := by decide +kernel
theorem d10_7 : decode jdk_65_method_58_code 7 = .ok (.aload_n 0, 1) := by decide +kernel
theorem d10_8 : decode jdk_65_method_58_code 8 = .ok (.iload_n 1, 1) := by decide +kernel
theorem d10_9 : decode jdk_65_method_58_code 9 = .ok (.iload_n 2, 1) := by decide +kernel
theorem d10_10 : decode jdk_65_method_58_code 10 = .ok (.iload_n 3, 1) := by decide +kernel
theorem d10_11 : decode jdk_65_method_58_code 11 = .ok (.invokestatic 209, 3) := by decide +kernel
theorem pd_7 : parseMethodDescriptor "([IIII)I" = some ⟨[(.array .int), .int, .int, .int], some .int⟩ := by decide +kernel
theorem d10_14 : decode jdk_65_method_58_code 14 = .ok (.ireturn, 1) := by decide +kernel
theorem d7_47 : decode prog_51_method_18_code 47 = .ok (.aload_n 0, 1) := by decide +kernel
theorem d7_48 : decode prog_51_method_18_code 48 = .ok (.getfield 13, 3) := by decide +kernel
theorem d7_51 : decode prog_51_method_18_code 51 = .ok (.iload_n 3, 1) := by decide +kernel
theorem d7_52 : decode prog_51_method_18_code 52 = .ok (.iaload, 1) := by decide +kernel
theorem d7_53 : decode prog_51_method_18_code 53 = .ok (.iload_n 1, 1) := by decide +kernel
theorem d7_54 : decode prog_51_method_18_code 54 = .ok (.if_icmp .le 8, 3) := by decide +kernel
theorem d7_62 : decode prog_51_method_18_code 62 = .ok (.aload_n 0, 1) := by decide +kernel
theorem d7_63 : decode prog_51_method_18_code 63 = .ok (.getfield 13, 3) := by decide +kernel
theorem d7_66 : decode prog_51_method_18_code 66 = .ok (.iload_n 3, 1) := by decide +kernel
theorem d7_67 : decode prog_51_method_18_code 67 = .ok (.iaload, 1) := by decide +kernel
theorem d7_68 : decode prog_51_method_18_code 68 = .ok (.iload_n 1, 1) := by decide +kernel
theorem d7_69 : decode prog_51_method_18_code 69 = .ok (.if_icmp .ne 10, 3) := by decide +kernel
theorem d7_72 : decode prog_51_method_18_code 72 = .ok (.aload_n 0, 1) := by decide +kernel
theorem d7_73 : decode prog_51_method_18_code 73 = .ok (.iload_n 3, 1) := by decide +kernel
theorem d7_74 : decode prog_51_method_18_code 74 = .ok (.putfield 94, 3) := by decide +kernel
theorem d7_77 : decode prog_51_method_18_code 77 = .ok (.iload_n 3, 1) := by decide +kernel
theorem d7_78 : decode prog_51_method_18_code 78 = .ok (.ireturn, 1) := by decide +kernel
theorem d7_79 : decode prog_51_method_18_code 79 = .ok (.goto 22, 3) := by decide +kernel
theorem d7_101 : decode prog_51_method_18_code 101 = .ok (.aload_n 0, 1) := by decide +kernel
theorem d7_102 : decode prog_51_method_18_code 102 = .ok (.getfield 13, 3) := by decide +kernel
theorem d7_105 : decode prog_51_method_18_code 105 = .ok (.iconst 0, 1) := by decide +kernel
theorem d7_106 : decode prog_51_method_18_code 106 = .ok (.aload_n 0, 1) := by decide +kernel
theorem d7_107 : decode prog_51_method_18_code 107 = .ok (.getfield 27, 3) := by decide +kernel
theorem d7_110 : decode prog_51_method_18_code 110 = .ok (.iload_n 1, 1) := by decide +kernel
theorem d7_111 : decode prog_51_method_18_code 111 = .ok (.invokestatic 97, 3) := by decide +kernel
theorem d7_114 : decode prog_51_method_18_code 114 = .ok (.istore_n 2, 1) := by decide +kernel
theorem d7_115 : decode prog_51_method_18_code 115 = .ok (.iload_n 2, 1) := by decide +kernel
theorem d7_116 : decode prog_51_method_18_code 116 = .ok (.ifCond .lt 8, 3) := by decide +kernel
theorem d7_124 : decode prog_51_method_18_code 124 = .ok (.iload_n 2, 1) := by decide +kernel
theorem d7_125 : decode prog_51_method_18_code 125 = .ok (.ireturn, 1) := by decide +kernel
theorem d11_0 : decode prog_51_method_4_code 0 = .ok (.iload_n 1, 1) := by decide +kernel
theorem d11_1 : decode prog_51_method_4_code 1 = .ok (.bipush 6, 2) := by decide +kernel
theorem d11_3 : decode prog_51_method_4_code 3 = .ok (.iushr, 1) := by decide +kernel
theorem d11_4 : decode prog_51_method_4_code 4 = .ok (.istore_n 2, 1) := by decide +kernel
theorem d11_5 : decode prog_51_method_4_code 5 = .ok (.aload_n 0, 1) := by decide +kernel
theorem d11_6 : decode prog_51_method_4_code 6 = .ok (.iload_n 2, 1) := by decide +kernel
theorem d11_7 : decode prog_51_method_4_code 7 = .ok (.invokevirtual 23, 3) := by decide +kernel
theorem pd_8 : parseMethodDescriptor "(I)I" = some ⟨[.int], some .int⟩ := by decide +kernel
theorem d11_10 : decode prog_51_method_4_code 10 = .ok (.istore_n 3, 1) := by decide +kernel
theorem d11_11 : decode prog_51_method_4_code 11 = .ok (.iload_n 3, 1) := by decide +kernel
theorem d11_12 : decode prog_51_method_4_code 12 = .ok (.ifCond .ge 14, 3) := by decide +kernel
theorem d11_15 : decode prog_51_method_4_code 15 = .ok (.iload_n 3, 1) := by decide +kernel
theorem d11_16 : decode prog_51_method_4_code 16 = .ok (.ineg, 1) := by decide +kernel
theorem d11_17 : decode prog_51_method_4_code 17 = .ok (.iconst 1, 1) := by decide +kernel
theorem d11_18 : decode prog_51_method_4_code 18 = .ok (.isub, 1) := by decide +kernel
theorem d11_19 : decode prog_51_method_4_code 19 = .ok (.istore_n 3, 1) := by decide +kernel
theorem d11_20 : decode prog_51_method_4_code 20 = .ok (.aload_n 0, 1) := by decide +kernel
theorem d11_21 : decode prog_51_method_4_code 21 = .ok (.iload_n 3, 1) := by decide +kernel
theorem d11_22 : decode prog_51_method_4_code 22 = .ok (.iload_n 2, 1) := by decide +kernel
theorem d11_23 : decode prog_51_method_4_code 23 = .ok (.invokevirtual 31, 3) := by decide +kernel
theorem pd_9 : parseMethodDescriptor "(II)V" = some ⟨[.int, .int], none⟩ := by decide +kernel
theorem d11_26 : decode prog_51_method_4_code 26 = .ok (.aload_n 0, 1) := by decide +kernel
theorem d11_27 : decode prog_51_method_4_code 27 = .ok (.getfield 20, 3) := by decide +kernel
theorem d11_30 : decode prog_51_method_4_code 30 = .ok (.iload_n 3, 1) := by decide +kernel
theorem d11_31 : decode prog_51_method_4_code 31 = .ok (.dup2, 1) := by decide +kernel
theorem d11_32 : decode prog_51_method_4_code 32 = .ok (.laload, 1) := by decide +kernel
theorem d11_33 : decode prog_51_method_4_code 33 = .ok (.lconst 1, 1) := by decide +kernel
theorem d11_34 : decode prog_51_method_4_code 34 = .ok (.iload_n 1, 1) := by decide +kernel
theorem d11_35 : decode prog_51_method_4_code 35 = .ok (.lshl, 1) := by decide +kernel
theorem d11_36 : decode prog_51_method_4_code 36 = .ok (.lor, 1) := by decide +kernel
theorem d11_37 : decode prog_51_method_4_code 37 = .ok (.lastore, 1) := by decide +kernel
theorem d11_38 : decode prog_51_method_4_code 38 = .ok (.return_, 1) := by decide +kernel
theorem d12_0 : decode prog_51_method_14_code 0 = .ok (.iconst 0, 1) := by decide +kernel
theorem d12_1 : decode prog_51_method_14_code 1 = .ok (.istore_n 2, 1) := by decide +kernel
theorem d12_2 : decode prog_51_method_14_code 2 = .ok (.iload_n 2, 1) := by decide +kernel
theorem d12_3 : decode prog_51_method_14_code 3 = .ok (.aload_n 0, 1) := by decide +kernel
theorem d12_4 : decode prog_51_method_14_code 4 = .ok (.getfield 27, 3) := by decide +kernel
theorem d12_7 : decode prog_51_method_14_code 7 = .ok (.if_icmp .ge 26, 3) := by decide +kernel
theorem d12_33 : decode prog_51_method_14_code 33 = .ok (.return_, 1) := by decide +kernel
theorem d12_10 : decode prog_51_method_14_code 10 = .ok (.aload_n 1, 1) := by decide +kernel
theorem d12_11 : decode prog_51_method_14_code 11 = .ok (.aload_n 0, 1) := by decide +kernel
theorem d12_12 : decode prog_51_method_14_code 12 = .ok (.getfield 13, 3) := by decide +kernel
theorem d12_15 : decode prog_51_method_14_code 15 = .ok (.iload_n 2, 1) := by decide +kernel
theorem d12_16 : decode prog_51_method_14_code 16 = .ok (.iaload, 1) := by decide +kernel
theorem d12_17 : decode prog_51_method_14_code 17 = .ok (.dup2, 1) := by decide +kernel
theorem d12_18 : decode prog_51_method_14_code 18 = .ok (.laload, 1) := by decide +kernel
theorem d12_19 : decode prog_51_method_14_code 19 = .ok (.aload_n 0, 1) := by decide +kernel
theorem d12_20 : decode prog_51_method_14_code 20 = .ok (.getfield 20, 3) := by decide +kernel
theorem d12_23 : decode prog_51_method_14_code 23 = .ok (.iload_n 2, 1) := by decide +kernel
theorem d12_24 : decode prog_51_method_14_code 24 = .ok (.laload, 1) := by decide +kernel
theorem d12_25 : decode prog_51_method_14_code 25 = .ok (.lor, 1) := by decide +kernel
theorem d12_26 : decode prog_51_method_14_code 26 = .ok (.lastore, 1) := by decide +kernel
theorem d12_27 : decode prog_51_method_14_code 27 = .ok (.iinc 2 1, 3) := by decide +kernel
theorem d12_30 : decode prog_51_method_14_code 30 = .ok (.goto (-28), 3) := by decide +kernel
theorem pn_10 : plainName "com/example/libtbox/libtbox/core/SparseBitSetAddToPinLaw" = true := by first | (simp [plainName, overriddenIn]; done) | decide +kernel
theorem d13_0 : decode method_3_code 0 = .ok (.lload_n 1, 1) := by decide +kernel
theorem d13_1 : decode method_3_code 1 = .ok (.lstore 7, 2) := by decide +kernel
theorem d13_3 : decode method_3_code 3 = .ok (.iload_n 3, 1) := by decide +kernel
theorem d13_4 : decode method_3_code 4 = .ok (.iconst 1, 1) := by decide +kernel
theorem d13_5 : decode method_3_code 5 = .ok (.if_icmp .lt 21, 3) := by decide +kernel
theorem d13_26 : decode method_3_code 26 = .ok (.iload_n 3, 1) := by decide +kernel
theorem d13_27 : decode method_3_code 27 = .ok (.iconst 2, 1) := by decide +kernel
theorem d13_28 : decode method_3_code 28 = .ok (.if_icmp .lt 21, 3) := by decide +kernel
theorem d13_49 : decode method_3_code 49 = .ok (.iload_n 3, 1) := by decide +kernel
theorem d13_50 : decode method_3_code 50 = .ok (.iconst 3, 1) := by decide +kernel
theorem d13_51 : decode method_3_code 51 = .ok (.if_icmp .lt 21, 3) := by decide +kernel
theorem d13_72 : decode method_3_code 72 = .ok (.lload 7, 2) := by decide +kernel
theorem d13_74 : decode method_3_code 74 = .ok (.lreturn, 1) := by decide +kernel
theorem d13_8 : decode method_3_code 8 = .ok (.iload 4, 2) := by decide +kernel
theorem d13_10 : decode method_3_code 10 = .ok (.bipush 6, 2) := by decide +kernel
theorem d13_12 : decode method_3_code 12 = .ok (.iushr, 1) := by decide +kernel
theorem d13_13 : decode method_3_code 13 = .ok (.iload_n 0, 1) := by decide +kernel
theorem d13_14 : decode method_3_code 14 = .ok (.if_icmp .ne 12, 3) := by decide +kernel
theorem d13_17 : decode method_3_code 17 = .ok (.lload 7, 2) := by decide +kernel
theorem d13_19 : decode method_3_code 19 = .ok (.lconst 1, 1) := by decide +kernel
theorem d13_20 : decode method_3_code 20 = .ok (.iload 4, 2) := by decide +kernel
theorem d13_22 : decode method_3_code 22 = .ok (.lshl, 1) := by decide +kernel
theorem d13_23 : decode method_3_code 23 = .ok (.lor, 1) := by decide +kernel
theorem d13_24 : decode method_3_code 24 = .ok (.lstore 7, 2) := by decide +kernel
theorem d13_31 : decode method_3_code 31 = .ok (.iload 5, 2) := by decide +kernel
theorem d13_33 : decode method_3_code 33 = .ok (.bipush 6, 2) := by decide +kernel
theorem d13_35 : decode method_3_code 35 = .ok (.iushr, 1) := by decide +kernel
theorem d13_36 : decode method_3_code 36 = .ok (.iload_n 0, 1) := by decide +kernel
theorem d13_37 : decode method_3_code 37 = .ok (.if_icmp .ne 12, 3) := by decide +kernel
theorem d13_40 : decode method_3_code 40 = .ok (.lload 7, 2) := by decide +kernel
theorem d13_42 : decode method_3_code 42 = .ok (.lconst 1, 1) := by decide +kernel
theorem d13_43 : decode method_3_code 43 = .ok (.iload 5, 2) := by decide +kernel
theorem d13_45 : decode method_3_code 45 = .ok (.lshl, 1) := by decide +kernel
theorem d13_46 : decode method_3_code 46 = .ok (.lor, 1) := by decide +kernel
theorem d13_47 : decode method_3_code 47 = .ok (.lstore 7, 2) := by decide +kernel
theorem d13_54 : decode method_3_code 54 = .ok (.iload 6, 2) := by decide +kernel
theorem d13_56 : decode method_3_code 56 = .ok (.bipush 6, 2) := by decide +kernel
theorem d13_58 : decode method_3_code 58 = .ok (.iushr, 1) := by decide +kernel
theorem d13_59 : decode method_3_code 59 = .ok (.iload_n 0, 1) := by decide +kernel
theorem d13_60 : decode method_3_code 60 = .ok (.if_icmp .ne 12, 3) := by decide +kernel
theorem d13_63 : decode method_3_code 63 = .ok (.lload 7, 2) := by decide +kernel
theorem d13_65 : decode method_3_code 65 = .ok (.lconst 1, 1) := by decide +kernel
theorem d13_66 : decode method_3_code 66 = .ok (.iload 6, 2) := by decide +kernel
theorem d13_68 : decode method_3_code 68 = .ok (.lshl, 1) := by decide +kernel
theorem d13_69 : decode method_3_code 69 = .ok (.lor, 1) := by decide +kernel
theorem d13_70 : decode method_3_code 70 = .ok (.lstore 7, 2) := by decide +kernel
theorem pd_11 : parseMethodDescriptor "()V" = some ⟨[], none⟩ := by decide +kernel
theorem pd_12 : parseMethodDescriptor "([J)V" = some ⟨[(.array .long)], none⟩ := by decide +kernel
theorem pd_13 : parseMethodDescriptor "(IJIIII)J" = some ⟨[.int, .long, .int, .int, .int, .int], some .long⟩ := by decide +kernel
theorem own_len {args : Array Value} {Z : State} {t : Term} {a : Addr} {cl : Cell} {ty : FieldType} {z : Int32} (ht : t.eval args Z none [] Z = some (.ref a)) (A : Arr Z Z.heap a cl ty) (e : (Term.length t).eval args Z none [] Z = some (.int z)) : cl.slots.size < 2 ^ 31 ∧ cl.slots.size.toInt32 = z := by
  have hA := A.fin (Vm.Alike.refl _)
  by_cases hn : cl.slots.size < 2 ^ 31
  · exact ⟨hn, Value.int.inj (Option.some.inj ((len_f ht hA hn).symm.trans e))⟩
  · exfalso
    simp [Term.eval, ht, hA, hn] at e
theorem own_idx {args : Array Value} {Z : State} {j : Int32} (hj : ¬ j < 0) : (Term.sub (.index 0) (.int 128)).eval args Z none [j.toNatClampNeg] Z = some (.int (j - 128)) := by
  have e := idx_at (args := args) (first := Z) (s := Z) (o := none) hj
  simp only [Term.eval] at e ⊢
  simp [e, (back32 hj).1]
theorem own_eqr {args : Array Value} {Z : State} {X F : Term} {y : Addr} (hF : F.eval args Z none [] Z = some (.ref y)) (h : (Jvm.Cond.eq X F).value args Z none Z [] = some true) : X.eval args Z none [] Z = some (.ref y) := by
  obtain ⟨x, y', e1, e2, k1, k2⟩ := cmp_v (Or.inl h)
  cases hF.symm.trans e2
  have k3 : x.isRef = true := k2.2
  exact e1.trans (congrArg some (gotT (eq_R e1 hF k3 rfl) h))
theorem own_el {args : Array Value} {Z : State} {t : Term} {a : Addr} {cl : Cell} {ty : FieldType} {v : Value} {j : Int32} {i : Nat} (ht : t.eval args Z none [] Z = some (.ref a)) (A : Arr Z Z.heap a cl ty) (h : (Term.elem t (.int j)).eval args Z none [] Z = some v) (hi : j.toNatClampNeg = i) : cl.slots[i]? = some v := by
  subst hi
  exact (elem_in h ht (Term.int_eval j) A.1).2
theorem own_and3 {x k : Int32} (hk : k = x &&& 3) (h0 : ¬ k = 0) (h1 : ¬ k = 1) (h2 : ¬ k = 2) : k = 3 := by
  have q := c_and x 3 (by decide)
  rw [← hk] at q
  have e0 : (0 : Int32).toInt = 0 := by decide
  have e1 : (1 : Int32).toInt = 1 := by decide
  have e2 : (2 : Int32).toInt = 2 := by decide
  have e3 : (3 : Int32).toInt = 3 := by decide
  rw [← Int32.toInt_inj, e0] at h0
  rw [← Int32.toInt_inj, e1] at h1
  rw [← Int32.toInt_inj, e2] at h2
  rw [e3] at q
  rw [← Int32.toInt_inj, e3]
  omega
def own_b (F : Nat → Int64) : List Value := [.long (F 0), .long (F 1), .long (F 2), .long (F 3)]
def own_add (F : Nat → Int64) (n : Nat) (w : Int64) : Nat → Int64 := fun k => if k = n then F k ||| w else F k
def own_f (v0 v1 v2 v3 : Int64) : Nat → Int64 := fun n => if n = 0 then v0 else if n = 1 then v1 else if n = 2 then v2 else v3
def own_acc (i w : Int32) (r m : Int64) : Int64 := if i = w then r ||| m else r
theorem own_lt4 {i : Int32} (g : ¬ i < 0 ∧ i < 4) : i.toNatClampNeg < 4 := by
  have h := g.2
  have h0 := nat_of g.1
  rw [Int32.lt_iff_toInt_lt, show (4 : Int32).toInt = 4 by decide] at h
  omega
theorem own_bget (F : Nat → Int64) {n : Nat} (h : n < 4) : (own_b F).getD n (.long 0) = .long (F n) := by
  rcases n with _ | _ | _ | _ | n
  · rfl
  · rfl
  · rfl
  · rfl
  · omega
theorem own_bset (F : Nat → Int64) {n : Nat} (h : n < 4) (w : Int64) : (own_b F).set n (.long (F n ||| w)) = own_b (own_add F n w) := by
  rcases n with _ | _ | _ | _ | n
  · simp [own_b, own_add]
  · simp [own_b, own_add]
  · simp [own_b, own_add]
  · simp [own_b, own_add]
  · omega
theorem own_addacc {F : Nat → Int64} {i kw : Int32} {w : Int64} {k : Nat} (g : ¬ i < 0 ∧ i < 4) (hk : kw.toNatClampNeg = k) (hk0 : ¬ kw < 0) : own_add F i.toNatClampNeg w k = own_acc i kw (F k) w := by
  unfold own_add own_acc
  by_cases h : i = kw
  · subst h
    rw [if_pos hk.symm, if_pos rfl]
  · rw [if_neg h, if_neg]
    intro q
    apply h
    apply Int32.toInt_inj.mp
    rw [nat_of g.1, nat_of hk0, ← q, hk]
theorem own_ix {x b : Int32} (hx : x = b &&& 255) : ¬ XT.ushr x (6 : Int32) < 0 ∧ XT.ushr x (6 : Int32) < 4 := by
  have q := c_and b 255 (by decide)
  rw [← hx] at q
  have r : (XT.ushr x (6 : Int32)).toInt = (x.toInt % 4294967296) / (2 ^ 6 : Nat) := c_iushr x 6 6 (by decide) (by decide)
  have e1 : (255 : Int32).toInt = 255 := by decide
  have e2 : (0 : Int32).toInt = 0 := by decide
  have e3 : (4 : Int32).toInt = 4 := by decide
  rw [Int32.lt_iff_toInt_lt, Int32.lt_iff_toInt_lt, r, e2, e3]
  rw [e1] at q
  have : ((2 ^ 6 : Nat) : Int) = 64 := by decide
  rw [this]
  omega
theorem own_four {x k : Int32} (hk : k = x &&& 3) : k = 0 ∨ k = 1 ∨ k = 2 ∨ k = 3 := by
  by_cases h0 : k = 0
  · exact Or.inl h0
  · by_cases h1 : k = 1
    · exact Or.inr (Or.inl h1)
    · by_cases h2 : k = 2
      · exact Or.inr (Or.inr (Or.inl h2))
      · exact Or.inr (Or.inr (Or.inr (own_and3 hk h0 h1 h2)))
theorem own_orl (a b c : Int64) : a ||| (b ||| c) = b ||| (a ||| c) := by rw [← Int64.or_assoc, Int64.or_comm a b, Int64.or_assoc]
theorem own_z (a : Int64) : (0 : Int64) ||| a = a := by simp
theorem own_gt {x y : Int32} (h1 : ¬ y < x) (h2 : ¬ x = y) : x < y := by
  rw [Int32.lt_iff_toInt_lt] at *
  rw [← Int32.toInt_inj] at h2
  omega
theorem own_ge {x y : Int32} (h1 : ¬ y < x) (h2 : ¬ y = x) : x < y := own_gt h1 (fun q => h2 q.symm)
set_option maxRecDepth 65536 in
set_option maxHeartbeats 40000000 in
theorem rm_sbinit {l : Launch} {Z : State} {a0 : Array Value} (hw : ∀ d ∈ tables_1, d.before a0 Z = true) (a ai aw : Addr) (h0 : Heap) (O0 : Ext Z.heap h0) (f0 : Z.heap.size ≤ a) (E0 : Exa Z h0 a "com/example/libtbox/libtbox/core/SparseBitSet") (P_indices : Fld Z h0 a "com/example/libtbox/libtbox/core/SparseBitSet" "indices" "[I" .null) (P_words : Fld Z h0 a "com/example/libtbox/libtbox/core/SparseBitSet" "words" "[J" .null) (P_count : Fld Z h0 a "com/example/libtbox/libtbox/core/SparseBitSet" "count" "I" (.int (0 : Int32))) (P_lastFound : Fld Z h0 a "com/example/libtbox/libtbox/core/SparseBitSet" "lastFound" "I" (.int (0 : Int32))) (SI : Sta Z Z.heap "com/example/libtbox/libtbox/core/SparseBitSet" "NO_INDICES" "[I" (.ref ai)) (SW : Sta Z Z.heap "com/example/libtbox/libtbox/core/SparseBitSet" "NO_WORDS" "[J" (.ref aw)) :
    Con l (⟨"com/example/libtbox/libtbox/core/SparseBitSet", "<init>", "()V"⟩ : MethodName) prog_51_method_1_code 1 none ({ frames := 1, cells := 0, slots := 0, locals := 12 } : Room) Z #[(.ref a)] h0 (fun v h L => v = none ∧ Fr Z.heap.size L ∧ Keep h0 h [a] ∧ Fld Z h a "com/example/libtbox/libtbox/core/SparseBitSet" "indices" "[I" (.ref ai) ∧ Fld Z h a "com/example/libtbox/libtbox/core/SparseBitSet" "words" "[J" (.ref aw) ∧ Fld Z h a "com/example/libtbox/libtbox/core/SparseBitSet" "count" "I" (.int (0 : Int32)) ∧ Fld Z h a "com/example/libtbox/libtbox/core/SparseBitSet" "lastFound" "I" (.int (0 : Int32))) := by
  refine Con.of (plainFor_of_name pn_0) (Ls := #[rv a]) (fun m => efOf rfl) ?_
  intro p e s m below meth c T0 X0 hx hZ hby hml hown hnm hret hlk e0
  refine go (fun _ => XS.aloadN X0.here hx rfl (hb hby d0_0) rfl rfl) ?_
  show Ends p e below s _ _ _ T0 (mkF m 1 #[rv a] [(.ref a)])
  obtain ⟨T1, X1, e1, s1⟩ := initO X0 hx hZ hown (hwi hw 6 rfl) (hwi hw 7 rfl) (hwi hw 8 rfl) e0 (g := (mkF m 1 #[rv a] [(.ref a)])) rfl (by rw [hml]; rfl) rfl (hb hby d0_1) (by decide) (W := 0) (by show 2 * 0 + _ ≤ _; exact Nat.le_of_eq rfl) (by decide)
  refine go s1 ?_
  show Ends p e below s _ _ _ T1 (mkF m 4 #[rv a] [])
  refine go (fun _ => XS.aloadN X1.here hx rfl (hb hby d0_4) rfl rfl) ?_
  show Ends p e below s _ _ _ T1 (mkF m 5 #[rv a] [(.ref a)])
  obtain ⟨T2, X2, e2, s2⟩ := getS2 X1 hx hZ hown (host := "") (Or.inl (hwi hw 9 rfl)) Via.refl e1 (Sta.ext O0 SI) (g := (mkF m 5 #[rv a] [(.ref a)])) rfl (hb hby d0_5)
  refine go s2 ?_
  show Ends p e below s _ _ _ T2 (mkF m 8 #[rv a] [(.ref ai), (.ref a)])
  obtain ⟨T3, h3, X3, e3, W3, s3⟩ := putF X2 hx hZ hown (host := "") (Or.inl (hwi hw 11 rfl)) Via.refl e2 P_indices E0 (Or.inl (hwi hw 12 rfl)) (hwi hw 1 rfl) (ty := (.array .int)) (by decide) rfl rfl (g := (mkF m 8 #[rv a] [(.ref ai), (.ref a)])) rfl rfl (hb hby d0_8)
  have N3 := Fr.snoc X3 (Fr.nil _) f0
  have O4 : Ext Z.heap h3 := xw O0 W3 f0
  refine go s3 ?_
  show Ends p e below s _ _ _ T3 (mkF m 11 #[rv a] [])
  refine go (fun _ => XS.aloadN X3.here hx rfl (hb hby d0_11) rfl rfl) ?_
  show Ends p e below s _ _ _ T3 (mkF m 12 #[rv a] [(.ref a)])
  obtain ⟨T5, X5, e5, s5⟩ := getS2 X3 hx hZ hown (host := "") (Or.inl (hwi hw 13 rfl)) Via.refl e3 (Sta.ext O4 SW) (g := (mkF m 12 #[rv a] [(.ref a)])) rfl (hb hby d0_12)
  refine go s5 ?_
  show Ends p e below s _ _ _ T5 (mkF m 15 #[rv a] [(.ref aw), (.ref a)])
  have F6 := (Exa.wr W3 E0)
  have F7 := (Fld.other W3 P_words (Or.inr (slot_ne (a0 := a0) (Or.inl (hwi hw 16 rfl)) (Or.inl (hwi hw 12 rfl)) (by decide) (t := (.array .long)) (t' := (.array .int)) (by decide) (by decide))))
  obtain ⟨T8, h8, X8, e8, W8, s8⟩ := putF X5 hx hZ hown (host := "") (Or.inl (hwi hw 15 rfl)) Via.refl e5 F7 F6 (Or.inl (hwi hw 16 rfl)) (hwi hw 1 rfl) (ty := (.array .long)) (by decide) rfl rfl (g := (mkF m 15 #[rv a] [(.ref aw), (.ref a)])) rfl rfl (hb hby d0_15)
  have N8 := Fr.snoc X8 N3 f0
  have O9 : Ext Z.heap h8 := xw O4 W8 f0
  refine go s8 ?_
  show Ends p e below s _ _ _ T8 (mkF m 18 #[rv a] [])
  have K10 : Keep h0 h8 [a] := (Keep.wr (Keep.wr (Keep.refl _ _) W3 (Or.inl (List.mem_of_getElem? (i := 0) rfl))) W8 (Or.inl (List.mem_of_getElem? (i := 0) rfl)))
  have F11 := (Fld.other W8 (Fld.same W3 P_indices) (Or.inr (slot_ne (a0 := a0) (Or.inl (hwi hw 12 rfl)) (Or.inl (hwi hw 16 rfl)) (by decide) (t := (.array .int)) (t' := (.array .long)) (by decide) (by decide))))
  have F12 := (Fld.same W8 F7)
  have F13 := (Fld.other W8 (Fld.other W3 P_count (Or.inr (slot_ne (a0 := a0) (Or.inl (hwi hw 29 rfl)) (Or.inl (hwi hw 12 rfl)) (by decide) (t := .int) (t' := (.array .int)) (by decide) (by decide)))) (Or.inr (slot_ne (a0 := a0) (Or.inl (hwi hw 29 rfl)) (Or.inl (hwi hw 16 rfl)) (by decide) (t := .int) (t' := (.array .long)) (by decide) (by decide))))
  have F14 := (Fld.other W8 (Fld.other W3 P_lastFound (Or.inr (slot_ne (a0 := a0) (Or.inl (hwi hw 27 rfl)) (Or.inl (hwi hw 12 rfl)) (by decide) (t := .int) (t' := (.array .int)) (by decide) (by decide)))) (Or.inr (slot_ne (a0 := a0) (Or.inl (hwi hw 27 rfl)) (Or.inl (hwi hw 16 rfl)) (by decide) (t := .int) (t' := (.array .long)) (by decide) (by decide))))
  exact endV X8 hx hlk hret (hb hby d0_18) e8 ⟨rfl, N8, K10, F11, F12, F13, F14⟩ (by decide) (by decide)
set_option maxRecDepth 65536 in
set_option maxHeartbeats 40000000 in
theorem rm_max_2_0 {l : Launch} {Z : State} {a0 : Array Value} (hw : ∀ d ∈ tables_1, d.before a0 Z = true)  (h0 : Heap)  :
    Con l (⟨"java/lang/Math", "max", "(II)I"⟩ : MethodName) jdk_29_method_65_code 2 (some .int) ({ frames := 0, cells := 0, slots := 0, locals := 0 } : Room) Z #[(.int (2 : Int32)), (.int (0 : Int32))] h0 (fun v h L => v = some (.int (2 : Int32)) ∧ Fr Z.heap.size L ∧ h0 = h) := by
  refine Con.of (Jvm.Free.JP.mathPlain rfl (by decide +kernel)) (Ls := #[iv (2 : Int32), iv (0 : Int32)]) (fun m => efOf rfl) ?_
  intro p e s m below meth c T0 X0 hx hZ hby hml hown hnm hret hlk e0
  refine go (fun _ => XS.iloadN X0.here hx rfl (hb hby d1_0) rfl) ?_
  refine go (fun _ => XS.iloadN X0.here hx rfl (hb hby d1_1) rfl) ?_
  show Ends p e below s _ _ _ T0 (mkF m 2 #[iv (2 : Int32), iv (0 : Int32)] [(.int (0 : Int32)), (.int (2 : Int32))])
  refine go (fun _ => XS.icmpNo X0.here hx rfl (hb hby d1_2) rfl (XT.ii_lt_f ((by decide) : ¬ ((2 : Int32) < (0 : Int32))))) ?_
  show Ends p e below s _ _ _ T0 (mkF m 5 #[iv (2 : Int32), iv (0 : Int32)] [])
  refine go (fun _ => XS.iloadN X0.here hx rfl (hb hby d1_5) rfl) ?_
  refine go (fun _ => XS.goto X0.here hx rfl (pc0 := 6) (pc' := 10) rfl (hb hby d1_6) (by decide) (by decide)) ?_
  show Ends p e below s _ _ _ T0 (mkF m 10 #[iv (2 : Int32), iv (0 : Int32)] [(.int (2 : Int32))])
  exact endI X0 hx hlk hret (hb hby d1_10) e0 ⟨rfl, (Fr.nil _), rfl⟩ (by decide) (by decide)
set_option maxRecDepth 65536 in
set_option maxHeartbeats 40000000 in
theorem rm_max_1_2 {l : Launch} {Z : State} {a0 : Array Value} (hw : ∀ d ∈ tables_1, d.before a0 Z = true)  (h0 : Heap)  :
    Con l (⟨"java/lang/Math", "max", "(II)I"⟩ : MethodName) jdk_29_method_65_code 2 (some .int) ({ frames := 0, cells := 0, slots := 0, locals := 0 } : Room) Z #[(.int (1 : Int32)), (.int (2 : Int32))] h0 (fun v h L => v = some (.int (2 : Int32)) ∧ Fr Z.heap.size L ∧ h0 = h) := by
  refine Con.of (Jvm.Free.JP.mathPlain rfl (by decide +kernel)) (Ls := #[iv (1 : Int32), iv (2 : Int32)]) (fun m => efOf rfl) ?_
  intro p e s m below meth c T0 X0 hx hZ hby hml hown hnm hret hlk e0
  refine go (fun _ => XS.iloadN X0.here hx rfl (hb hby d1_0) rfl) ?_
  refine go (fun _ => XS.iloadN X0.here hx rfl (hb hby d1_1) rfl) ?_
  show Ends p e below s _ _ _ T0 (mkF m 2 #[iv (1 : Int32), iv (2 : Int32)] [(.int (2 : Int32)), (.int (1 : Int32))])
  refine go (fun _ => XS.icmpYes X0.here hx rfl (pc0 := 2) (pc' := 9) rfl (hb hby d1_2) rfl (XT.ii_lt_t ((by decide) : (1 : Int32) < (2 : Int32))) (by decide) (by decide)) ?_
  show Ends p e below s _ _ _ T0 (mkF m 9 #[iv (1 : Int32), iv (2 : Int32)] [])
  refine go (fun _ => XS.iloadN X0.here hx rfl (hb hby d1_9) rfl) ?_
  show Ends p e below s _ _ _ T0 (mkF m 10 #[iv (1 : Int32), iv (2 : Int32)] [(.int (2 : Int32))])
  exact endI X0 hx hlk hret (hb hby d1_10) e0 ⟨rfl, (Fr.nil _), rfl⟩ (by decide) (by decide)
set_option maxRecDepth 65536 in
set_option maxHeartbeats 40000000 in
theorem rm_min_0_2 {l : Launch} {Z : State} {a0 : Array Value} (hw : ∀ d ∈ tables_1, d.before a0 Z = true)  (h0 : Heap)  :
    Con l (⟨"java/lang/Math", "min", "(II)I"⟩ : MethodName) jdk_29_method_69_code 2 (some .int) ({ frames := 0, cells := 0, slots := 0, locals := 0 } : Room) Z #[(.int (0 : Int32)), (.int (2 : Int32))] h0 (fun v h L => v = some (.int (0 : Int32)) ∧ Fr Z.heap.size L ∧ h0 = h) := by
  refine Con.of (Jvm.Free.JP.mathPlain rfl (by decide +kernel)) (Ls := #[iv (0 : Int32), iv (2 : Int32)]) (fun m => efOf rfl) ?_
  intro p e s m below meth c T0 X0 hx hZ hby hml hown hnm hret hlk e0
  refine go (fun _ => XS.iloadN X0.here hx rfl (hb hby d2_0) rfl) ?_
  refine go (fun _ => XS.iloadN X0.here hx rfl (hb hby d2_1) rfl) ?_
  show Ends p e below s _ _ _ T0 (mkF m 2 #[iv (0 : Int32), iv (2 : Int32)] [(.int (2 : Int32)), (.int (0 : Int32))])
  refine go (fun _ => XS.icmpNo X0.here hx rfl (hb hby d2_2) rfl (XT.ii_gt_f ((by decide) : ¬ ((2 : Int32) < (0 : Int32))))) ?_
  show Ends p e below s _ _ _ T0 (mkF m 5 #[iv (0 : Int32), iv (2 : Int32)] [])
  refine go (fun _ => XS.iloadN X0.here hx rfl (hb hby d2_5) rfl) ?_
  refine go (fun _ => XS.goto X0.here hx rfl (pc0 := 6) (pc' := 10) rfl (hb hby d2_6) (by decide) (by decide)) ?_
  show Ends p e below s _ _ _ T0 (mkF m 10 #[iv (0 : Int32), iv (2 : Int32)] [(.int (0 : Int32))])
  exact endI X0 hx hlk hret (hb hby d2_10) e0 ⟨rfl, (Fr.nil _), rfl⟩ (by decide) (by decide)
set_option maxRecDepth 65536 in
set_option maxHeartbeats 40000000 in
theorem rm_copyI_0_2 {l : Launch} {Z : State} {a0 : Array Value} (hw : ∀ d ∈ tables_1, d.before a0 Z = true) (a : Addr) (ka : ClassId)  (h0 : Heap) (O0 : Ext Z.heap h0) (VA : Arv Z h0 a ka .int (0 : Int32) [] (.int 0)) :
    Con l (⟨"java/util/Arrays", "copyOf", "([II)[I"⟩ : MethodName) jdk_65_method_123_code 3 (some (.array .int)) ({ frames := 1, cells := 1, slots := 2, locals := 18 } : Room) Z #[(.ref a), (.int (2 : Int32))] h0 (fun v h L => ∃ (b : Addr) (kb : ClassId), v = some (.ref b) ∧ Fr Z.heap.size L ∧ Keep h0 h [] ∧ h0.size ≤ b ∧ Arv Z h b kb .int (2 : Int32) [(.int (0 : Int32)), (.int (0 : Int32))] (.int 0)) := by
  refine Con.of (plainFor_of_name pn_1) (Ls := #[rv a, iv (2 : Int32), .unset]) (fun m => efOf rfl) ?_
  intro p e s m below meth c T0 X0 hx hZ hby hml hown hnm hret hlk e0
  refine go (fun _ => XS.iloadN X0.here hx rfl (hb hby d3_0) rfl) ?_
  refine go (fun _ => XS.aloadN X0.here hx rfl (hb hby d3_1) rfl rfl) ?_
  show Ends p e below s _ _ _ T0 (mkF m 2 #[rv a, iv (2 : Int32), .unset] [(.ref a), (.int (2 : Int32))])
  obtain ⟨cl15, A15, -, S15, M15, -⟩ := id VA
  refine go (fun _ => X0.arraylength hx (cell := cl15) (by rw [e0]; exact A15.1) (State.isArrayOf_alike hZ.alike A15.2.1) (g := (mkF m 2 #[rv a, iv (2 : Int32), .unset] [(.ref a), (.int (2 : Int32))])) rfl rfl (hb hby d3_2) _) ?_
  rw [len_of S15 M15]
  show Ends p e below s _ _ _ T0 (mkF m 3 #[rv a, iv (2 : Int32), .unset] [(.int (0 : Int32)), (.int (2 : Int32))])
  refine go (fun _ => XS.icmpYes X0.here hx rfl (pc0 := 3) (pc' := 14) rfl (hb hby d3_3) rfl (XT.ii_ne_t ((by decide) : ¬ ((2 : Int32) = (0 : Int32)))) (by decide) (by decide)) ?_
  show Ends p e below s _ _ _ T0 (mkF m 14 #[rv a, iv (2 : Int32), .unset] [])
  refine go (fun _ => XS.iloadN X0.here hx rfl (hb hby d3_14) rfl) ?_
  show Ends p e below s _ _ _ T0 (mkF m 15 #[rv a, iv (2 : Int32), .unset] [(.int (2 : Int32))])
  obtain ⟨T16, h16, k16, X16, e16, E16, A16, s16⟩ := newP X0 hx hZ (hwi hw 46 rfl) e0 (g := (mkF m 15 #[rv a, iv (2 : Int32), .unset] [(.int (2 : Int32))])) rfl (hb hby d3_15) rfl (by decide) (cap := 2) (by decide) (by decide) (by decide) (by decide)
  obtain ⟨a16, g16⟩ : ∃ z : Addr, z = h0.size := ⟨_, rfl⟩
  have n17 : a ≠ a16 := fun q => absurd (VA.lt) (by rw [q, g16]; exact Nat.lt_irrefl _)
  have f16 : Z.heap.size ≤ a16 := by rw [g16]; exact (O0).1
  have K18 : Keep h0 h0 [] := (Keep.refl _ _)
  have b16 : h0.size ≤ a16 := by rw [g16]; exact (K18).1
  rw [← g16] at A16 s16
  have O19 : Ext Z.heap h16 := xx O0 E16
  have V16 : Arv Z h16 a16 k16 .int (2 : Int32) [(.int (0 : Int32)), (.int (0 : Int32))] (.int 0) := Arv.pad (Arv.new A16 (by decide)) (pad_rep [] _ 2)
  refine go s16 ?_
  show Ends p e below s _ _ _ T16 (mkF m 17 #[rv a, iv (2 : Int32), .unset] [(.ref a16)])
  refine go (fun _ => XS.astoreN X16.here hx rfl (hb hby d3_17) rfl rfl (l' := #[rv a, iv (2 : Int32), rv a16]) rfl) ?_
  refine go (fun _ => XS.aloadN X16.here hx rfl (hb hby d3_18) rfl rfl) ?_
  refine go (fun _ => XT.iconstV X16.here hx rfl (0 : Int32) (hb hby d3_19) (by decide)) ?_
  refine go (fun _ => XS.aloadN X16.here hx rfl (hb hby d3_20) rfl rfl) ?_
  refine go (fun _ => XT.iconstV X16.here hx rfl (0 : Int32) (hb hby d3_21) (by decide)) ?_
  refine go (fun _ => XS.aloadN X16.here hx rfl (hb hby d3_22) rfl rfl) ?_
  show Ends p e below s _ _ _ T16 (mkF m 23 #[rv a, iv (2 : Int32), rv a16] [(.ref a), (.int (0 : Int32)), (.ref a16), (.int (0 : Int32)), (.ref a)])
  have F20 := (Arv.ext VA E16)
  obtain ⟨cl21, A21, -, S21, M21, -⟩ := id F20
  refine go (fun _ => X16.arraylength hx (cell := cl21) (by rw [e16]; exact A21.1) (State.isArrayOf_alike hZ.alike A21.2.1) (g := (mkF m 23 #[rv a, iv (2 : Int32), rv a16] [(.ref a), (.int (0 : Int32)), (.ref a16), (.int (0 : Int32)), (.ref a)])) rfl rfl (hb hby d3_23) _) ?_
  rw [len_of S21 M21]
  show Ends p e below s _ _ _ T16 (mkF m 24 #[rv a, iv (2 : Int32), rv a16] [(.int (0 : Int32)), (.int (0 : Int32)), (.ref a16), (.int (0 : Int32)), (.ref a)])
  refine go (fun _ => XS.iloadN X16.here hx rfl (hb hby d3_24) rfl) ?_
  show Ends p e below s _ _ _ T16 (mkF m 25 #[rv a, iv (2 : Int32), rv a16] [(.int (2 : Int32)), (.int (0 : Int32)), (.int (0 : Int32)), (.ref a16), (.int (0 : Int32)), (.ref a)])
  refine cStat X16 hx hZ hown (by rw [hml]; rfl) e16 (hwi hw 47 rfl) (hwi hw 48 rfl) (hwi hw 40 rfl) (hwi hw 49 rfl) [(.int (0 : Int32)), (.int (2 : Int32))] [(.int (0 : Int32)), (.ref a16), (.int (0 : Int32)), (.ref a)] rfl (rm_min_0_2 hw _) (hb hby d3_25) rfl (lenOf pd_2 rfl) (by decide) (by decide) (Nat.le_of_ble_eq_true rfl) (by decide) (by decide) ?_
  rintro v22 T22 h22 L22 X22 e22 ⟨rfl, N22, rfl⟩
  have N22a := Fr.app (Fr.nil _) N22
  show Ends p e below s _ _ _ T22 (mkF m 28 #[rv a, iv (2 : Int32), rv a16] [(.int (0 : Int32)), (.int (0 : Int32)), (.ref a16), (.int (0 : Int32)), (.ref a)])
  obtain ⟨T23, h23, L23, X23, e23, N23, K23, V23, s23⟩ := cpA X22 hx hZ hown (hwi hw 50 rfl) (hwi hw 53 rfl) (hwi hw 51 rfl) (hwi hw 52 rfl) e22 F20 V16 (us := []) (Or.inl ⟨rfl, rfl⟩) (sp := (0 : Int32)) (dp := (0 : Int32)) (nn := (0 : Int32)) (by decide) (by decide) (by decide) (by decide) (by decide) rfl (Nat.le_of_ble_eq_true rfl) N22a f16 (g := (mkF m 28 #[rv a, iv (2 : Int32), rv a16] [(.int (0 : Int32)), (.int (0 : Int32)), (.ref a16), (.int (0 : Int32)), (.ref a)])) rfl (by rw [hml]; rfl) rfl (hb hby d3_28) (by decide) (W := 0) (by show 2 * 0 + _ ≤ _; exact Nat.le_of_eq rfl) (by decide)
  have O24 : Ext Z.heap h23 := xk O19 K23 (allS f16 all0)
  have V23l : Arv Z h23 a16 k16 .int (2 : Int32) [(.int (0 : Int32)), (.int (0 : Int32))] (.int 0) := V23
  refine go s23 ?_
  show Ends p e below s _ _ _ T23 (mkF m 31 #[rv a, iv (2 : Int32), rv a16] [])
  refine go (fun _ => XS.aloadN X23.here hx rfl (hb hby d3_31) rfl rfl) ?_
  show Ends p e below s _ _ _ T23 (mkF m 32 #[rv a, iv (2 : Int32), rv a16] [(.ref a16)])
  have K25 : Keep h0 h23 [] := (Keep.trans (Keep.ext K18 E16) K23 (allS (Or.inr b16) all0))
  exact endA X23 hx hlk hret rfl rfl (hb hby d3_32) e23 ⟨a16, _, rfl, N23, K25, b16, V23l⟩ (by decide) (by decide)
set_option maxRecDepth 65536 in
set_option maxHeartbeats 40000000 in
theorem rm_copyJ_0_2 {l : Launch} {Z : State} {a0 : Array Value} (hw : ∀ d ∈ tables_1, d.before a0 Z = true) (a : Addr) (ka : ClassId)  (h0 : Heap) (O0 : Ext Z.heap h0) (VA : Arv Z h0 a ka .long (0 : Int32) [] (.long 0)) :
    Con l (⟨"java/util/Arrays", "copyOf", "([JI)[J"⟩ : MethodName) jdk_65_method_124_code 3 (some (.array .long)) ({ frames := 1, cells := 1, slots := 2, locals := 18 } : Room) Z #[(.ref a), (.int (2 : Int32))] h0 (fun v h L => ∃ (b : Addr) (kb : ClassId), v = some (.ref b) ∧ Fr Z.heap.size L ∧ Keep h0 h [] ∧ h0.size ≤ b ∧ Arv Z h b kb .long (2 : Int32) [(.long (0 : Int64)), (.long (0 : Int64))] (.long 0)) := by
  refine Con.of (plainFor_of_name pn_1) (Ls := #[rv a, iv (2 : Int32), .unset]) (fun m => efOf rfl) ?_
  intro p e s m below meth c T0 X0 hx hZ hby hml hown hnm hret hlk e0
  refine go (fun _ => XS.iloadN X0.here hx rfl (hb hby d4_0) rfl) ?_
  refine go (fun _ => XS.aloadN X0.here hx rfl (hb hby d4_1) rfl rfl) ?_
  show Ends p e below s _ _ _ T0 (mkF m 2 #[rv a, iv (2 : Int32), .unset] [(.ref a), (.int (2 : Int32))])
  obtain ⟨cl26, A26, -, S26, M26, -⟩ := id VA
  refine go (fun _ => X0.arraylength hx (cell := cl26) (by rw [e0]; exact A26.1) (State.isArrayOf_alike hZ.alike A26.2.1) (g := (mkF m 2 #[rv a, iv (2 : Int32), .unset] [(.ref a), (.int (2 : Int32))])) rfl rfl (hb hby d4_2) _) ?_
  rw [len_of S26 M26]
  show Ends p e below s _ _ _ T0 (mkF m 3 #[rv a, iv (2 : Int32), .unset] [(.int (0 : Int32)), (.int (2 : Int32))])
  refine go (fun _ => XS.icmpYes X0.here hx rfl (pc0 := 3) (pc' := 14) rfl (hb hby d4_3) rfl (XT.ii_ne_t ((by decide) : ¬ ((2 : Int32) = (0 : Int32)))) (by decide) (by decide)) ?_
  show Ends p e below s _ _ _ T0 (mkF m 14 #[rv a, iv (2 : Int32), .unset] [])
  refine go (fun _ => XS.iloadN X0.here hx rfl (hb hby d4_14) rfl) ?_
  show Ends p e below s _ _ _ T0 (mkF m 15 #[rv a, iv (2 : Int32), .unset] [(.int (2 : Int32))])
  obtain ⟨T27, h27, k27, X27, e27, E27, A27, s27⟩ := newP X0 hx hZ (hwi hw 57 rfl) e0 (g := (mkF m 15 #[rv a, iv (2 : Int32), .unset] [(.int (2 : Int32))])) rfl (hb hby d4_15) rfl (by decide) (cap := 2) (by decide) (by decide) (by decide) (by decide)
  obtain ⟨a27, g27⟩ : ∃ z : Addr, z = h0.size := ⟨_, rfl⟩
  have n28 : a ≠ a27 := fun q => absurd (VA.lt) (by rw [q, g27]; exact Nat.lt_irrefl _)
  have f27 : Z.heap.size ≤ a27 := by rw [g27]; exact (O0).1
  have K29 : Keep h0 h0 [] := (Keep.refl _ _)
  have b27 : h0.size ≤ a27 := by rw [g27]; exact (K29).1
  rw [← g27] at A27 s27
  have O30 : Ext Z.heap h27 := xx O0 E27
  have V27 : Arv Z h27 a27 k27 .long (2 : Int32) [(.long (0 : Int64)), (.long (0 : Int64))] (.long 0) := Arv.pad (Arv.new A27 (by decide)) (pad_rep [] _ 2)
  refine go s27 ?_
  show Ends p e below s _ _ _ T27 (mkF m 17 #[rv a, iv (2 : Int32), .unset] [(.ref a27)])
  refine go (fun _ => XS.astoreN X27.here hx rfl (hb hby d4_17) rfl rfl (l' := #[rv a, iv (2 : Int32), rv a27]) rfl) ?_
  refine go (fun _ => XS.aloadN X27.here hx rfl (hb hby d4_18) rfl rfl) ?_
  refine go (fun _ => XT.iconstV X27.here hx rfl (0 : Int32) (hb hby d4_19) (by decide)) ?_
  refine go (fun _ => XS.aloadN X27.here hx rfl (hb hby d4_20) rfl rfl) ?_
  refine go (fun _ => XT.iconstV X27.here hx rfl (0 : Int32) (hb hby d4_21) (by decide)) ?_
  refine go (fun _ => XS.aloadN X27.here hx rfl (hb hby d4_22) rfl rfl) ?_
  show Ends p e below s _ _ _ T27 (mkF m 23 #[rv a, iv (2 : Int32), rv a27] [(.ref a), (.int (0 : Int32)), (.ref a27), (.int (0 : Int32)), (.ref a)])
  have F31 := (Arv.ext VA E27)
  obtain ⟨cl32, A32, -, S32, M32, -⟩ := id F31
  refine go (fun _ => X27.arraylength hx (cell := cl32) (by rw [e27]; exact A32.1) (State.isArrayOf_alike hZ.alike A32.2.1) (g := (mkF m 23 #[rv a, iv (2 : Int32), rv a27] [(.ref a), (.int (0 : Int32)), (.ref a27), (.int (0 : Int32)), (.ref a)])) rfl rfl (hb hby d4_23) _) ?_
  rw [len_of S32 M32]
  show Ends p e below s _ _ _ T27 (mkF m 24 #[rv a, iv (2 : Int32), rv a27] [(.int (0 : Int32)), (.int (0 : Int32)), (.ref a27), (.int (0 : Int32)), (.ref a)])
  refine go (fun _ => XS.iloadN X27.here hx rfl (hb hby d4_24) rfl) ?_
  show Ends p e below s _ _ _ T27 (mkF m 25 #[rv a, iv (2 : Int32), rv a27] [(.int (2 : Int32)), (.int (0 : Int32)), (.int (0 : Int32)), (.ref a27), (.int (0 : Int32)), (.ref a)])
  refine cStat X27 hx hZ hown (by rw [hml]; rfl) e27 (hwi hw 47 rfl) (hwi hw 48 rfl) (hwi hw 40 rfl) (hwi hw 49 rfl) [(.int (0 : Int32)), (.int (2 : Int32))] [(.int (0 : Int32)), (.ref a27), (.int (0 : Int32)), (.ref a)] rfl (rm_min_0_2 hw _) (hb hby d4_25) rfl (lenOf pd_2 rfl) (by decide) (by decide) (Nat.le_of_ble_eq_true rfl) (by decide) (by decide) ?_
  rintro v33 T33 h33 L33 X33 e33 ⟨rfl, N33, rfl⟩
  have N33a := Fr.app (Fr.nil _) N33
  show Ends p e below s _ _ _ T33 (mkF m 28 #[rv a, iv (2 : Int32), rv a27] [(.int (0 : Int32)), (.int (0 : Int32)), (.ref a27), (.int (0 : Int32)), (.ref a)])
  obtain ⟨T34, h34, L34, X34, e34, N34, K34, V34, s34⟩ := cpA X33 hx hZ hown (hwi hw 50 rfl) (hwi hw 53 rfl) (hwi hw 51 rfl) (hwi hw 52 rfl) e33 F31 V27 (us := []) (Or.inl ⟨rfl, rfl⟩) (sp := (0 : Int32)) (dp := (0 : Int32)) (nn := (0 : Int32)) (by decide) (by decide) (by decide) (by decide) (by decide) rfl (Nat.le_of_ble_eq_true rfl) N33a f27 (g := (mkF m 28 #[rv a, iv (2 : Int32), rv a27] [(.int (0 : Int32)), (.int (0 : Int32)), (.ref a27), (.int (0 : Int32)), (.ref a)])) rfl (by rw [hml]; rfl) rfl (hb hby d4_28) (by decide) (W := 0) (by show 2 * 0 + _ ≤ _; exact Nat.le_of_eq rfl) (by decide)
  have O35 : Ext Z.heap h34 := xk O30 K34 (allS f27 all0)
  have V34l : Arv Z h34 a27 k27 .long (2 : Int32) [(.long (0 : Int64)), (.long (0 : Int64))] (.long 0) := V34
  refine go s34 ?_
  show Ends p e below s _ _ _ T34 (mkF m 31 #[rv a, iv (2 : Int32), rv a27] [])
  refine go (fun _ => XS.aloadN X34.here hx rfl (hb hby d4_31) rfl rfl) ?_
  show Ends p e below s _ _ _ T34 (mkF m 32 #[rv a, iv (2 : Int32), rv a27] [(.ref a27)])
  have K36 : Keep h0 h34 [] := (Keep.trans (Keep.ext K29 E27) K34 (allS (Or.inr b27) all0))
  exact endA X34 hx hlk hret rfl rfl (hb hby d4_32) e34 ⟨a27, _, rfl, N34, K36, b27, V34l⟩ (by decide) (by decide)
set_option maxRecDepth 65536 in
set_option maxHeartbeats 40000000 in
theorem rm_grow0 {l : Launch} {Z : State} {a0 : Array Value} (hw : ∀ d ∈ tables_1, d.before a0 Z = true) (a ai aw : Addr) (ki kw : ClassId)  (h0 : Heap) (O0 : Ext Z.heap h0) (f0 : Z.heap.size ≤ a) (E0 : Exa Z h0 a "com/example/libtbox/libtbox/core/SparseBitSet") (P0 : Fld Z h0 a "com/example/libtbox/libtbox/core/SparseBitSet" "indices" "[I" (.ref ai)) (P1 : Fld Z h0 a "com/example/libtbox/libtbox/core/SparseBitSet" "words" "[J" (.ref aw)) (P2 : Fld Z h0 a "com/example/libtbox/libtbox/core/SparseBitSet" "count" "I" (.int (0 : Int32))) (P3 : Fld Z h0 a "com/example/libtbox/libtbox/core/SparseBitSet" "lastFound" "I" (.int (0 : Int32))) (P4 : Arv Z h0 ai ki .int (0 : Int32) [] (.int 0)) (P5 : Arv Z h0 aw kw .long (0 : Int32) [] (.long 0)) (nai : a ≠ ai) (naw : a ≠ aw)  :
    Con l (⟨"com/example/libtbox/libtbox/core/SparseBitSet", "grow", "(I)V"⟩ : MethodName) prog_51_method_20_code 3 none ({ frames := 2, cells := 2, slots := 4, locals := 33 } : Room) Z #[(.ref a), (.int (1 : Int32))] h0 (fun v h L => v = none ∧ Fr Z.heap.size L ∧ ∃ (bi bw : Addr) (k1 k2 : ClassId), Keep h0 h [a] ∧ h0.size ≤ bi ∧ h0.size ≤ bw ∧ bi ≠ bw ∧ Fld Z h a "com/example/libtbox/libtbox/core/SparseBitSet" "indices" "[I" (.ref bi) ∧ Fld Z h a "com/example/libtbox/libtbox/core/SparseBitSet" "words" "[J" (.ref bw) ∧ Fld Z h a "com/example/libtbox/libtbox/core/SparseBitSet" "count" "I" (.int (0 : Int32)) ∧ Fld Z h a "com/example/libtbox/libtbox/core/SparseBitSet" "lastFound" "I" (.int (0 : Int32)) ∧ Arv Z h bi k1 .int (2 : Int32) [(.int (0 : Int32)), (.int (0 : Int32))] (.int 0) ∧ Arv Z h bw k2 .long (2 : Int32) [(.long (0 : Int64)), (.long (0 : Int64))] (.long 0)) := by
  refine Con.of (plainFor_of_name pn_0) (Ls := #[rv a, iv (1 : Int32), .unset]) (fun m => efOf rfl) ?_
  intro p e s m below meth c T0 X0 hx hZ hby hml hown hnm hret hlk e0
  refine go (fun _ => XS.iloadN X0.here hx rfl (hb hby d5_0) rfl) ?_
  refine go (fun _ => XS.aloadN X0.here hx rfl (hb hby d5_1) rfl rfl) ?_
  show Ends p e below s _ _ _ T0 (mkF m 2 #[rv a, iv (1 : Int32), .unset] [(.ref a), (.int (1 : Int32))])
  obtain ⟨T37, X37, e37, s37⟩ := getF X0 hx hZ hown (host := "") (Or.inl (hwi hw 11 rfl)) Via.refl e0 P0 (g := (mkF m 2 #[rv a, iv (1 : Int32), .unset] [(.ref a), (.int (1 : Int32))])) rfl rfl (hb hby d5_2)
  refine go s37 ?_
  show Ends p e below s _ _ _ T37 (mkF m 5 #[rv a, iv (1 : Int32), .unset] [(.ref ai), (.int (1 : Int32))])
  obtain ⟨cl38, A38, -, S38, M38, -⟩ := id P4
  refine go (fun _ => X37.arraylength hx (cell := cl38) (by rw [e37]; exact A38.1) (State.isArrayOf_alike hZ.alike A38.2.1) (g := (mkF m 5 #[rv a, iv (1 : Int32), .unset] [(.ref ai), (.int (1 : Int32))])) rfl rfl (hb hby d5_5) _) ?_
  rw [len_of S38 M38]
  show Ends p e below s _ _ _ T37 (mkF m 6 #[rv a, iv (1 : Int32), .unset] [(.int (0 : Int32)), (.int (1 : Int32))])
  refine go (fun _ => XS.icmpNo X37.here hx rfl (hb hby d5_6) rfl (XT.ii_le_f ((by decide) : (0 : Int32) < (1 : Int32)))) ?_
  show Ends p e below s _ _ _ T37 (mkF m 9 #[rv a, iv (1 : Int32), .unset] [])
  refine go (fun _ => XS.iloadN X37.here hx rfl (hb hby d5_9) rfl) ?_
  refine go (fun _ => XT.iconstV X37.here hx rfl (2 : Int32) (hb hby d5_10) (by decide)) ?_
  refine go (fun _ => XS.aloadN X37.here hx rfl (hb hby d5_11) rfl rfl) ?_
  show Ends p e below s _ _ _ T37 (mkF m 12 #[rv a, iv (1 : Int32), .unset] [(.ref a), (.int (2 : Int32)), (.int (1 : Int32))])
  obtain ⟨T39, X39, e39, s39⟩ := getF X37 hx hZ hown (host := "") (Or.inl (hwi hw 11 rfl)) Via.refl e37 P0 (g := (mkF m 12 #[rv a, iv (1 : Int32), .unset] [(.ref a), (.int (2 : Int32)), (.int (1 : Int32))])) rfl rfl (hb hby d5_12)
  refine go s39 ?_
  show Ends p e below s _ _ _ T39 (mkF m 15 #[rv a, iv (1 : Int32), .unset] [(.ref ai), (.int (2 : Int32)), (.int (1 : Int32))])
  obtain ⟨cl40, A40, -, S40, M40, -⟩ := id P4
  refine go (fun _ => X39.arraylength hx (cell := cl40) (by rw [e39]; exact A40.1) (State.isArrayOf_alike hZ.alike A40.2.1) (g := (mkF m 15 #[rv a, iv (1 : Int32), .unset] [(.ref ai), (.int (2 : Int32)), (.int (1 : Int32))])) rfl rfl (hb hby d5_15) _) ?_
  rw [len_of S40 M40]
  show Ends p e below s _ _ _ T39 (mkF m 16 #[rv a, iv (1 : Int32), .unset] [(.int (0 : Int32)), (.int (2 : Int32)), (.int (1 : Int32))])
  refine go (fun _ => XT.iconstV X39.here hx rfl (2 : Int32) (hb hby d5_16) (by decide)) ?_
  refine go (fun _ => XS.imul X39.here hx rfl (hb hby d5_17) rfl) ?_
  show Ends p e below s _ _ _ T39 (mkF m 18 #[rv a, iv (1 : Int32), .unset] [(.int (0 : Int32)), (.int (2 : Int32)), (.int (1 : Int32))])
  refine cStat X39 hx hZ hown (by rw [hml]; rfl) e39 (hwi hw 38 rfl) (hwi hw 39 rfl) (hwi hw 40 rfl) (hwi hw 41 rfl) [(.int (2 : Int32)), (.int (0 : Int32))] [(.int (1 : Int32))] rfl (rm_max_2_0 hw _) (hb hby d5_18) rfl (lenOf pd_2 rfl) (by decide) (by decide) (Nat.le_of_ble_eq_true rfl) (by decide) (by decide) ?_
  rintro v41 T41 h41 L41 X41 e41 ⟨rfl, N41, rfl⟩
  have N41a := Fr.app (Fr.nil _) N41
  show Ends p e below s _ _ _ T41 (mkF m 21 #[rv a, iv (1 : Int32), .unset] [(.int (2 : Int32)), (.int (1 : Int32))])
  refine cStat X41 hx hZ hown (by rw [hml]; rfl) e41 (hwi hw 38 rfl) (hwi hw 39 rfl) (hwi hw 40 rfl) (hwi hw 41 rfl) [(.int (1 : Int32)), (.int (2 : Int32))] [] rfl (rm_max_1_2 hw _) (hb hby d5_21) rfl (lenOf pd_2 rfl) (by decide) (by decide) (Nat.le_of_ble_eq_true rfl) (by decide) (by decide) ?_
  rintro v42 T42 h42 L42 X42 e42 ⟨rfl, N42, rfl⟩
  have N42a := Fr.app N41a N42
  show Ends p e below s _ _ _ T42 (mkF m 24 #[rv a, iv (1 : Int32), .unset] [(.int (2 : Int32))])
  refine go (fun _ => XS.istoreN X42.here hx rfl (hb hby d5_24) rfl (l' := #[rv a, iv (1 : Int32), iv (2 : Int32)]) rfl) ?_
  refine go (fun _ => XS.aloadN X42.here hx rfl (hb hby d5_25) rfl rfl) ?_
  refine go (fun _ => XS.aloadN X42.here hx rfl (hb hby d5_26) rfl rfl) ?_
  show Ends p e below s _ _ _ T42 (mkF m 27 #[rv a, iv (1 : Int32), iv (2 : Int32)] [(.ref a), (.ref a)])
  obtain ⟨T43, X43, e43, s43⟩ := getF X42 hx hZ hown (host := "") (Or.inl (hwi hw 11 rfl)) Via.refl e42 P0 (g := (mkF m 27 #[rv a, iv (1 : Int32), iv (2 : Int32)] [(.ref a), (.ref a)])) rfl rfl (hb hby d5_27)
  refine go s43 ?_
  show Ends p e below s _ _ _ T43 (mkF m 30 #[rv a, iv (1 : Int32), iv (2 : Int32)] [(.ref ai), (.ref a)])
  refine go (fun _ => XS.iloadN X43.here hx rfl (hb hby d5_30) rfl) ?_
  show Ends p e below s _ _ _ T43 (mkF m 31 #[rv a, iv (1 : Int32), iv (2 : Int32)] [(.int (2 : Int32)), (.ref ai), (.ref a)])
  refine cStat X43 hx hZ hown (by rw [hml]; rfl) e43 (hwi hw 42 rfl) (hwi hw 43 rfl) (hwi hw 44 rfl) (hwi hw 45 rfl) [(.ref ai), (.int (2 : Int32))] [(.ref a)] rfl (rm_copyI_0_2 hw ai ki  _ O0 P4) (hb hby d5_31) rfl (lenOf pd_3 rfl) (by decide) (by decide) (Nat.le_of_ble_eq_true rfl) (by decide) (by decide) ?_
  rintro v44 T44 h44 L44 X44 e44 ⟨b44, kb44, rfl, N44, K44, g44, V44⟩
  have N44a := Fr.app N42a N44
  have n45 : a ≠ b44 := Nat.ne_of_lt (Nat.lt_of_lt_of_le (E0.lt) g44)
  have n46 : ai ≠ b44 := Nat.ne_of_lt (Nat.lt_of_lt_of_le (P4.lt) g44)
  have n47 : aw ≠ b44 := Nat.ne_of_lt (Nat.lt_of_lt_of_le (P5.lt) g44)
  have f48 : Z.heap.size ≤ b44 := Nat.le_trans (O0).1 g44
  have K49 : Keep h0 h0 [a] := (Keep.refl _ _)
  have b48 : h0.size ≤ b44 := Nat.le_trans (K49).1 g44
  have O50 : Ext Z.heap h44 := xk O0 K44 all0
  show Ends p e below s _ _ _ T44 (mkF m 34 #[rv a, iv (1 : Int32), iv (2 : Int32)] [(.ref b44), (.ref a)])
  have F51 := (Exa.keep E0 K44)
  have F52 := (Fld.keep P0 K44 nin0)
  obtain ⟨T53, h53, X53, e53, W53, s53⟩ := putF X44 hx hZ hown (host := "") (Or.inl (hwi hw 11 rfl)) Via.refl e44 F52 F51 (Or.inl (hwi hw 12 rfl)) (hwi hw 1 rfl) (ty := (.array .int)) (by decide) rfl rfl (g := (mkF m 34 #[rv a, iv (1 : Int32), iv (2 : Int32)] [(.ref b44), (.ref a)])) rfl rfl (hb hby d5_34)
  have N53 := Fr.snoc X53 N44a f0
  have O54 : Ext Z.heap h53 := xw O50 W53 f0
  refine go s53 ?_
  show Ends p e below s _ _ _ T53 (mkF m 37 #[rv a, iv (1 : Int32), iv (2 : Int32)] [])
  refine go (fun _ => XS.aloadN X53.here hx rfl (hb hby d5_37) rfl rfl) ?_
  refine go (fun _ => XS.aloadN X53.here hx rfl (hb hby d5_38) rfl rfl) ?_
  show Ends p e below s _ _ _ T53 (mkF m 39 #[rv a, iv (1 : Int32), iv (2 : Int32)] [(.ref a), (.ref a)])
  have F55 := (Fld.other W53 (Fld.keep P1 K44 nin0) (Or.inr (slot_ne (a0 := a0) (Or.inl (hwi hw 16 rfl)) (Or.inl (hwi hw 12 rfl)) (by decide) (t := (.array .long)) (t' := (.array .int)) (by decide) (by decide))))
  obtain ⟨T56, X56, e56, s56⟩ := getF X53 hx hZ hown (host := "") (Or.inl (hwi hw 15 rfl)) Via.refl e53 F55 (g := (mkF m 39 #[rv a, iv (1 : Int32), iv (2 : Int32)] [(.ref a), (.ref a)])) rfl rfl (hb hby d5_39)
  refine go s56 ?_
  show Ends p e below s _ _ _ T56 (mkF m 42 #[rv a, iv (1 : Int32), iv (2 : Int32)] [(.ref aw), (.ref a)])
  refine go (fun _ => XS.iloadN X56.here hx rfl (hb hby d5_42) rfl) ?_
  show Ends p e below s _ _ _ T56 (mkF m 43 #[rv a, iv (1 : Int32), iv (2 : Int32)] [(.int (2 : Int32)), (.ref aw), (.ref a)])
  have F57 := (Arv.other (Arv.keep P5 K44 nin0) W53 (Ne.symm naw))
  refine cStat X56 hx hZ hown (by rw [hml]; rfl) e56 (hwi hw 54 rfl) (hwi hw 55 rfl) (hwi hw 44 rfl) (hwi hw 56 rfl) [(.ref aw), (.int (2 : Int32))] [(.ref a)] rfl (rm_copyJ_0_2 hw aw kw  _ O54 F57) (hb hby d5_43) rfl (lenOf pd_4 rfl) (by decide) (by decide) (Nat.le_of_ble_eq_true rfl) (by decide) (by decide) ?_
  rintro v58 T58 h58 L58 X58 e58 ⟨b58, kb58, rfl, N58, K58, g58, V58⟩
  have N58a := Fr.app N53 N58
  have F59 := (Exa.wr W53 F51)
  have n60 : a ≠ b58 := Nat.ne_of_lt (Nat.lt_of_lt_of_le (F59.lt) g58)
  have F61 := (Arv.other (Arv.keep P4 K44 nin0) W53 (Ne.symm nai))
  have n62 : ai ≠ b58 := Nat.ne_of_lt (Nat.lt_of_lt_of_le (F61.lt) g58)
  have n63 : aw ≠ b58 := Nat.ne_of_lt (Nat.lt_of_lt_of_le (F57.lt) g58)
  have F64 := (Arv.other V44 W53 (Ne.symm n45))
  have n65 : b44 ≠ b58 := Nat.ne_of_lt (Nat.lt_of_lt_of_le (F64.lt) g58)
  have f66 : Z.heap.size ≤ b58 := Nat.le_trans (O54).1 g58
  have K67 : Keep h0 h53 [a] := (Keep.wr (Keep.trans K49 K44 all0) W53 (Or.inl (List.mem_of_getElem? (i := 0) rfl)))
  have b66 : h0.size ≤ b58 := Nat.le_trans (K67).1 g58
  have O68 : Ext Z.heap h58 := xk O54 K58 all0
  show Ends p e below s _ _ _ T58 (mkF m 46 #[rv a, iv (1 : Int32), iv (2 : Int32)] [(.ref b58), (.ref a)])
  have F69 := (Exa.keep F59 K58)
  have F70 := (Fld.keep F55 K58 nin0)
  obtain ⟨T71, h71, X71, e71, W71, s71⟩ := putF X58 hx hZ hown (host := "") (Or.inl (hwi hw 15 rfl)) Via.refl e58 F70 F69 (Or.inl (hwi hw 16 rfl)) (hwi hw 1 rfl) (ty := (.array .long)) (by decide) rfl rfl (g := (mkF m 46 #[rv a, iv (1 : Int32), iv (2 : Int32)] [(.ref b58), (.ref a)])) rfl rfl (hb hby d5_46)
  have N71 := Fr.snoc X71 N58a f0
  have O72 : Ext Z.heap h71 := xw O68 W71 f0
  refine go s71 ?_
  show Ends p e below s _ _ _ T71 (mkF m 49 #[rv a, iv (1 : Int32), iv (2 : Int32)] [])
  have F73 := (Fld.other W71 (Fld.keep (Fld.same W53 F52) K58 nin0) (Or.inr (slot_ne (a0 := a0) (Or.inl (hwi hw 12 rfl)) (Or.inl (hwi hw 16 rfl)) (by decide) (t := (.array .int)) (t' := (.array .long)) (by decide) (by decide))))
  have F74 := (Fld.same W71 F70)
  have F75 := (Fld.other W71 (Fld.keep (Fld.other W53 (Fld.keep P2 K44 nin0) (Or.inr (slot_ne (a0 := a0) (Or.inl (hwi hw 29 rfl)) (Or.inl (hwi hw 12 rfl)) (by decide) (t := .int) (t' := (.array .int)) (by decide) (by decide)))) K58 nin0) (Or.inr (slot_ne (a0 := a0) (Or.inl (hwi hw 29 rfl)) (Or.inl (hwi hw 16 rfl)) (by decide) (t := .int) (t' := (.array .long)) (by decide) (by decide))))
  have F76 := (Fld.other W71 (Fld.keep (Fld.other W53 (Fld.keep P3 K44 nin0) (Or.inr (slot_ne (a0 := a0) (Or.inl (hwi hw 27 rfl)) (Or.inl (hwi hw 12 rfl)) (by decide) (t := .int) (t' := (.array .int)) (by decide) (by decide)))) K58 nin0) (Or.inr (slot_ne (a0 := a0) (Or.inl (hwi hw 27 rfl)) (Or.inl (hwi hw 16 rfl)) (by decide) (t := .int) (t' := (.array .long)) (by decide) (by decide))))
  have F77 := (Arv.other (Arv.keep F64 K58 nin0) W71 (Ne.symm n45))
  have F78 := (Arv.other V58 W71 (Ne.symm n60))
  have K79 : Keep h0 h71 [a] := (Keep.wr (Keep.trans K67 K58 all0) W71 (Or.inl (List.mem_of_getElem? (i := 0) rfl)))
  exact endV X71 hx hlk hret (hb hby d5_49) e71 ⟨rfl, N71, ⟨b44, b58, _, _, K79, b48, b66, n65, F73, F74, F75, F76, F77, F78⟩⟩ (by decide) (by decide)
set_option maxRecDepth 65536 in
set_option maxHeartbeats 40000000 in
theorem rm_grow1 {l : Launch} {Z : State} {a0 : Array Value} (hw : ∀ d ∈ tables_1, d.before a0 Z = true) (a ai aw : Addr) (ki kw : ClassId) (i0 : Int32) (w0 : Int64) (h0 : Heap) (O0 : Ext Z.heap h0) (f0 : Z.heap.size ≤ a) (E0 : Exa Z h0 a "com/example/libtbox/libtbox/core/SparseBitSet") (P0 : Fld Z h0 a "com/example/libtbox/libtbox/core/SparseBitSet" "indices" "[I" (.ref ai)) (P1 : Fld Z h0 a "com/example/libtbox/libtbox/core/SparseBitSet" "words" "[J" (.ref aw)) (P2 : Fld Z h0 a "com/example/libtbox/libtbox/core/SparseBitSet" "count" "I" (.int (1 : Int32))) (P3 : Fld Z h0 a "com/example/libtbox/libtbox/core/SparseBitSet" "lastFound" "I" (.int (0 : Int32))) (P4 : Arv Z h0 ai ki .int (2 : Int32) [(.int i0), (.int (0 : Int32))] (.int 0)) (P5 : Arv Z h0 aw kw .long (2 : Int32) [(.long w0), (.long (0 : Int64))] (.long 0)) (fi : Z.heap.size ≤ ai) (fw : Z.heap.size ≤ aw) (nai : a ≠ ai) (naw : a ≠ aw) (niw : ai ≠ aw)  :
    Con l (⟨"com/example/libtbox/libtbox/core/SparseBitSet", "grow", "(I)V"⟩ : MethodName) prog_51_method_20_code 3 none ({ frames := 0, cells := 0, slots := 0, locals := 0 } : Room) Z #[(.ref a), (.int (2 : Int32))] h0 (fun v h L => v = none ∧ Fr Z.heap.size L ∧ h0 = h) := by
  refine Con.of (plainFor_of_name pn_0) (Ls := #[rv a, iv (2 : Int32), .unset]) (fun m => efOf rfl) ?_
  intro p e s m below meth c T0 X0 hx hZ hby hml hown hnm hret hlk e0
  refine go (fun _ => XS.iloadN X0.here hx rfl (hb hby d5_0) rfl) ?_
  refine go (fun _ => XS.aloadN X0.here hx rfl (hb hby d5_1) rfl rfl) ?_
  show Ends p e below s _ _ _ T0 (mkF m 2 #[rv a, iv (2 : Int32), .unset] [(.ref a), (.int (2 : Int32))])
  obtain ⟨T80, X80, e80, s80⟩ := getF X0 hx hZ hown (host := "") (Or.inl (hwi hw 11 rfl)) Via.refl e0 P0 (g := (mkF m 2 #[rv a, iv (2 : Int32), .unset] [(.ref a), (.int (2 : Int32))])) rfl rfl (hb hby d5_2)
  refine go s80 ?_
  show Ends p e below s _ _ _ T80 (mkF m 5 #[rv a, iv (2 : Int32), .unset] [(.ref ai), (.int (2 : Int32))])
  obtain ⟨cl81, A81, -, S81, M81, -⟩ := id P4
  refine go (fun _ => X80.arraylength hx (cell := cl81) (by rw [e80]; exact A81.1) (State.isArrayOf_alike hZ.alike A81.2.1) (g := (mkF m 5 #[rv a, iv (2 : Int32), .unset] [(.ref ai), (.int (2 : Int32))])) rfl rfl (hb hby d5_5) _) ?_
  rw [len_of S81 M81]
  show Ends p e below s _ _ _ T80 (mkF m 6 #[rv a, iv (2 : Int32), .unset] [(.int (2 : Int32)), (.int (2 : Int32))])
  refine go (fun _ => XS.icmpYes X80.here hx rfl (pc0 := 6) (pc' := 49) rfl (hb hby d5_6) rfl (XT.ii_le_t ((by decide) : ¬ ((2 : Int32) < (2 : Int32)))) (by decide) (by decide)) ?_
  show Ends p e below s _ _ _ T80 (mkF m 49 #[rv a, iv (2 : Int32), .unset] [])
  exact endV X80 hx hlk hret (hb hby d5_49) e80 ⟨rfl, (Fr.nil _), rfl⟩ (by decide) (by decide)
set_option maxRecDepth 65536 in
set_option maxHeartbeats 40000000 in
theorem rm_max_2_4 {l : Launch} {Z : State} {a0 : Array Value} (hw : ∀ d ∈ tables_1, d.before a0 Z = true)  (h0 : Heap)  :
    Con l (⟨"java/lang/Math", "max", "(II)I"⟩ : MethodName) jdk_29_method_65_code 2 (some .int) ({ frames := 0, cells := 0, slots := 0, locals := 0 } : Room) Z #[(.int (2 : Int32)), (.int (4 : Int32))] h0 (fun v h L => v = some (.int (4 : Int32)) ∧ Fr Z.heap.size L ∧ h0 = h) := by
  refine Con.of (Jvm.Free.JP.mathPlain rfl (by decide +kernel)) (Ls := #[iv (2 : Int32), iv (4 : Int32)]) (fun m => efOf rfl) ?_
  intro p e s m below meth c T0 X0 hx hZ hby hml hown hnm hret hlk e0
  refine go (fun _ => XS.iloadN X0.here hx rfl (hb hby d1_0) rfl) ?_
  refine go (fun _ => XS.iloadN X0.here hx rfl (hb hby d1_1) rfl) ?_
  show Ends p e below s _ _ _ T0 (mkF m 2 #[iv (2 : Int32), iv (4 : Int32)] [(.int (4 : Int32)), (.int (2 : Int32))])
  refine go (fun _ => XS.icmpYes X0.here hx rfl (pc0 := 2) (pc' := 9) rfl (hb hby d1_2) rfl (XT.ii_lt_t ((by decide) : (2 : Int32) < (4 : Int32))) (by decide) (by decide)) ?_
  show Ends p e below s _ _ _ T0 (mkF m 9 #[iv (2 : Int32), iv (4 : Int32)] [])
  refine go (fun _ => XS.iloadN X0.here hx rfl (hb hby d1_9) rfl) ?_
  show Ends p e below s _ _ _ T0 (mkF m 10 #[iv (2 : Int32), iv (4 : Int32)] [(.int (4 : Int32))])
  exact endI X0 hx hlk hret (hb hby d1_10) e0 ⟨rfl, (Fr.nil _), rfl⟩ (by decide) (by decide)
set_option maxRecDepth 65536 in
set_option maxHeartbeats 40000000 in
theorem rm_max_3_4 {l : Launch} {Z : State} {a0 : Array Value} (hw : ∀ d ∈ tables_1, d.before a0 Z = true)  (h0 : Heap)  :
    Con l (⟨"java/lang/Math", "max", "(II)I"⟩ : MethodName) jdk_29_method_65_code 2 (some .int) ({ frames := 0, cells := 0, slots := 0, locals := 0 } : Room) Z #[(.int (3 : Int32)), (.int (4 : Int32))] h0 (fun v h L => v = some (.int (4 : Int32)) ∧ Fr Z.heap.size L ∧ h0 = h) := by
  refine Con.of (Jvm.Free.JP.mathPlain rfl (by decide +kernel)) (Ls := #[iv (3 : Int32), iv (4 : Int32)]) (fun m => efOf rfl) ?_
  intro p e s m below meth c T0 X0 hx hZ hby hml hown hnm hret hlk e0
  refine go (fun _ => XS.iloadN X0.here hx rfl (hb hby d1_0) rfl) ?_
  refine go (fun _ => XS.iloadN X0.here hx rfl (hb hby d1_1) rfl) ?_
  show Ends p e below s _ _ _ T0 (mkF m 2 #[iv (3 : Int32), iv (4 : Int32)] [(.int (4 : Int32)), (.int (3 : Int32))])
  refine go (fun _ => XS.icmpYes X0.here hx rfl (pc0 := 2) (pc' := 9) rfl (hb hby d1_2) rfl (XT.ii_lt_t ((by decide) : (3 : Int32) < (4 : Int32))) (by decide) (by decide)) ?_
  show Ends p e below s _ _ _ T0 (mkF m 9 #[iv (3 : Int32), iv (4 : Int32)] [])
  refine go (fun _ => XS.iloadN X0.here hx rfl (hb hby d1_9) rfl) ?_
  show Ends p e below s _ _ _ T0 (mkF m 10 #[iv (3 : Int32), iv (4 : Int32)] [(.int (4 : Int32))])
  exact endI X0 hx hlk hret (hb hby d1_10) e0 ⟨rfl, (Fr.nil _), rfl⟩ (by decide) (by decide)
set_option maxRecDepth 65536 in
set_option maxHeartbeats 40000000 in
theorem rm_min_2_4 {l : Launch} {Z : State} {a0 : Array Value} (hw : ∀ d ∈ tables_1, d.before a0 Z = true)  (h0 : Heap)  :
    Con l (⟨"java/lang/Math", "min", "(II)I"⟩ : MethodName) jdk_29_method_69_code 2 (some .int) ({ frames := 0, cells := 0, slots := 0, locals := 0 } : Room) Z #[(.int (2 : Int32)), (.int (4 : Int32))] h0 (fun v h L => v = some (.int (2 : Int32)) ∧ Fr Z.heap.size L ∧ h0 = h) := by
  refine Con.of (Jvm.Free.JP.mathPlain rfl (by decide +kernel)) (Ls := #[iv (2 : Int32), iv (4 : Int32)]) (fun m => efOf rfl) ?_
  intro p e s m below meth c T0 X0 hx hZ hby hml hown hnm hret hlk e0
  refine go (fun _ => XS.iloadN X0.here hx rfl (hb hby d2_0) rfl) ?_
  refine go (fun _ => XS.iloadN X0.here hx rfl (hb hby d2_1) rfl) ?_
  show Ends p e below s _ _ _ T0 (mkF m 2 #[iv (2 : Int32), iv (4 : Int32)] [(.int (4 : Int32)), (.int (2 : Int32))])
  refine go (fun _ => XS.icmpNo X0.here hx rfl (hb hby d2_2) rfl (XT.ii_gt_f ((by decide) : ¬ ((4 : Int32) < (2 : Int32))))) ?_
  show Ends p e below s _ _ _ T0 (mkF m 5 #[iv (2 : Int32), iv (4 : Int32)] [])
  refine go (fun _ => XS.iloadN X0.here hx rfl (hb hby d2_5) rfl) ?_
  refine go (fun _ => XS.goto X0.here hx rfl (pc0 := 6) (pc' := 10) rfl (hb hby d2_6) (by decide) (by decide)) ?_
  show Ends p e below s _ _ _ T0 (mkF m 10 #[iv (2 : Int32), iv (4 : Int32)] [(.int (2 : Int32))])
  exact endI X0 hx hlk hret (hb hby d2_10) e0 ⟨rfl, (Fr.nil _), rfl⟩ (by decide) (by decide)
set_option maxRecDepth 65536 in
set_option maxHeartbeats 40000000 in
theorem rm_copyI_2_4 {l : Launch} {Z : State} {a0 : Array Value} (hw : ∀ d ∈ tables_1, d.before a0 Z = true) (a : Addr) (ka : ClassId) (u0 u1 : Int32) (h0 : Heap) (O0 : Ext Z.heap h0) (VA : Arv Z h0 a ka .int (2 : Int32) [(.int u0), (.int u1)] (.int 0)) :
    Con l (⟨"java/util/Arrays", "copyOf", "([II)[I"⟩ : MethodName) jdk_65_method_123_code 3 (some (.array .int)) ({ frames := 1, cells := 1, slots := 4, locals := 18 } : Room) Z #[(.ref a), (.int (4 : Int32))] h0 (fun v h L => ∃ (b : Addr) (kb : ClassId), v = some (.ref b) ∧ Fr Z.heap.size L ∧ Keep h0 h [] ∧ h0.size ≤ b ∧ Arv Z h b kb .int (4 : Int32) [(.int u0), (.int u1), (.int (0 : Int32)), (.int (0 : Int32))] (.int 0)) := by
  refine Con.of (plainFor_of_name pn_1) (Ls := #[rv a, iv (4 : Int32), .unset]) (fun m => efOf rfl) ?_
  intro p e s m below meth c T0 X0 hx hZ hby hml hown hnm hret hlk e0
  refine go (fun _ => XS.iloadN X0.here hx rfl (hb hby d3_0) rfl) ?_
  refine go (fun _ => XS.aloadN X0.here hx rfl (hb hby d3_1) rfl rfl) ?_
  show Ends p e below s _ _ _ T0 (mkF m 2 #[rv a, iv (4 : Int32), .unset] [(.ref a), (.int (4 : Int32))])
  obtain ⟨cl82, A82, -, S82, M82, -⟩ := id VA
  refine go (fun _ => X0.arraylength hx (cell := cl82) (by rw [e0]; exact A82.1) (State.isArrayOf_alike hZ.alike A82.2.1) (g := (mkF m 2 #[rv a, iv (4 : Int32), .unset] [(.ref a), (.int (4 : Int32))])) rfl rfl (hb hby d3_2) _) ?_
  rw [len_of S82 M82]
  show Ends p e below s _ _ _ T0 (mkF m 3 #[rv a, iv (4 : Int32), .unset] [(.int (2 : Int32)), (.int (4 : Int32))])
  refine go (fun _ => XS.icmpYes X0.here hx rfl (pc0 := 3) (pc' := 14) rfl (hb hby d3_3) rfl (XT.ii_ne_t ((by decide) : ¬ ((4 : Int32) = (2 : Int32)))) (by decide) (by decide)) ?_
  show Ends p e below s _ _ _ T0 (mkF m 14 #[rv a, iv (4 : Int32), .unset] [])
  refine go (fun _ => XS.iloadN X0.here hx rfl (hb hby d3_14) rfl) ?_
  show Ends p e below s _ _ _ T0 (mkF m 15 #[rv a, iv (4 : Int32), .unset] [(.int (4 : Int32))])
  obtain ⟨T83, h83, k83, X83, e83, E83, A83, s83⟩ := newP X0 hx hZ (hwi hw 46 rfl) e0 (g := (mkF m 15 #[rv a, iv (4 : Int32), .unset] [(.int (4 : Int32))])) rfl (hb hby d3_15) rfl (by decide) (cap := 4) (by decide) (by decide) (by decide) (by decide)
  obtain ⟨a83, g83⟩ : ∃ z : Addr, z = h0.size := ⟨_, rfl⟩
  have n84 : a ≠ a83 := fun q => absurd (VA.lt) (by rw [q, g83]; exact Nat.lt_irrefl _)
  have f83 : Z.heap.size ≤ a83 := by rw [g83]; exact (O0).1
  have K85 : Keep h0 h0 [] := (Keep.refl _ _)
  have b83 : h0.size ≤ a83 := by rw [g83]; exact (K85).1
  rw [← g83] at A83 s83
  have O86 : Ext Z.heap h83 := xx O0 E83
  have V83 : Arv Z h83 a83 k83 .int (4 : Int32) [(.int (0 : Int32)), (.int (0 : Int32)), (.int (0 : Int32)), (.int (0 : Int32))] (.int 0) := Arv.pad (Arv.new A83 (by decide)) (pad_rep [] _ 4)
  refine go s83 ?_
  show Ends p e below s _ _ _ T83 (mkF m 17 #[rv a, iv (4 : Int32), .unset] [(.ref a83)])
  refine go (fun _ => XS.astoreN X83.here hx rfl (hb hby d3_17) rfl rfl (l' := #[rv a, iv (4 : Int32), rv a83]) rfl) ?_
  refine go (fun _ => XS.aloadN X83.here hx rfl (hb hby d3_18) rfl rfl) ?_
  refine go (fun _ => XT.iconstV X83.here hx rfl (0 : Int32) (hb hby d3_19) (by decide)) ?_
  refine go (fun _ => XS.aloadN X83.here hx rfl (hb hby d3_20) rfl rfl) ?_
  refine go (fun _ => XT.iconstV X83.here hx rfl (0 : Int32) (hb hby d3_21) (by decide)) ?_
  refine go (fun _ => XS.aloadN X83.here hx rfl (hb hby d3_22) rfl rfl) ?_
  show Ends p e below s _ _ _ T83 (mkF m 23 #[rv a, iv (4 : Int32), rv a83] [(.ref a), (.int (0 : Int32)), (.ref a83), (.int (0 : Int32)), (.ref a)])
  have F87 := (Arv.ext VA E83)
  obtain ⟨cl88, A88, -, S88, M88, -⟩ := id F87
  refine go (fun _ => X83.arraylength hx (cell := cl88) (by rw [e83]; exact A88.1) (State.isArrayOf_alike hZ.alike A88.2.1) (g := (mkF m 23 #[rv a, iv (4 : Int32), rv a83] [(.ref a), (.int (0 : Int32)), (.ref a83), (.int (0 : Int32)), (.ref a)])) rfl rfl (hb hby d3_23) _) ?_
  rw [len_of S88 M88]
  show Ends p e below s _ _ _ T83 (mkF m 24 #[rv a, iv (4 : Int32), rv a83] [(.int (2 : Int32)), (.int (0 : Int32)), (.ref a83), (.int (0 : Int32)), (.ref a)])
  refine go (fun _ => XS.iloadN X83.here hx rfl (hb hby d3_24) rfl) ?_
  show Ends p e below s _ _ _ T83 (mkF m 25 #[rv a, iv (4 : Int32), rv a83] [(.int (4 : Int32)), (.int (2 : Int32)), (.int (0 : Int32)), (.ref a83), (.int (0 : Int32)), (.ref a)])
  refine cStat X83 hx hZ hown (by rw [hml]; rfl) e83 (hwi hw 47 rfl) (hwi hw 48 rfl) (hwi hw 40 rfl) (hwi hw 49 rfl) [(.int (2 : Int32)), (.int (4 : Int32))] [(.int (0 : Int32)), (.ref a83), (.int (0 : Int32)), (.ref a)] rfl (rm_min_2_4 hw _) (hb hby d3_25) rfl (lenOf pd_2 rfl) (by decide) (by decide) (Nat.le_of_ble_eq_true rfl) (by decide) (by decide) ?_
  rintro v89 T89 h89 L89 X89 e89 ⟨rfl, N89, rfl⟩
  have N89a := Fr.app (Fr.nil _) N89
  show Ends p e below s _ _ _ T89 (mkF m 28 #[rv a, iv (4 : Int32), rv a83] [(.int (2 : Int32)), (.int (0 : Int32)), (.ref a83), (.int (0 : Int32)), (.ref a)])
  obtain ⟨T90, h90, L90, X90, e90, N90, K90, V90, s90⟩ := cpA X89 hx hZ hown (hwi hw 50 rfl) (hwi hw 53 rfl) (hwi hw 51 rfl) (hwi hw 52 rfl) e89 F87 V83 (us := [(.int u0), (.int u1)]) (Or.inl ⟨rfl, rfl⟩) (sp := (0 : Int32)) (dp := (0 : Int32)) (nn := (2 : Int32)) (by decide) (by decide) (by decide) (by decide) (by decide) rfl (Nat.le_of_ble_eq_true rfl) N89a f83 (g := (mkF m 28 #[rv a, iv (4 : Int32), rv a83] [(.int (2 : Int32)), (.int (0 : Int32)), (.ref a83), (.int (0 : Int32)), (.ref a)])) rfl (by rw [hml]; rfl) rfl (hb hby d3_28) (by decide) (W := 0) (by show 2 * 0 + _ ≤ _; exact Nat.le_of_eq rfl) (by decide)
  have O91 : Ext Z.heap h90 := xk O86 K90 (allS f83 all0)
  have V90l : Arv Z h90 a83 k83 .int (4 : Int32) [(.int u0), (.int u1), (.int (0 : Int32)), (.int (0 : Int32))] (.int 0) := V90
  refine go s90 ?_
  show Ends p e below s _ _ _ T90 (mkF m 31 #[rv a, iv (4 : Int32), rv a83] [])
  refine go (fun _ => XS.aloadN X90.here hx rfl (hb hby d3_31) rfl rfl) ?_
  show Ends p e below s _ _ _ T90 (mkF m 32 #[rv a, iv (4 : Int32), rv a83] [(.ref a83)])
  have K92 : Keep h0 h90 [] := (Keep.trans (Keep.ext K85 E83) K90 (allS (Or.inr b83) all0))
  exact endA X90 hx hlk hret rfl rfl (hb hby d3_32) e90 ⟨a83, _, rfl, N90, K92, b83, V90l⟩ (by decide) (by decide)
set_option maxRecDepth 65536 in
set_option maxHeartbeats 40000000 in
theorem rm_copyJ_2_4 {l : Launch} {Z : State} {a0 : Array Value} (hw : ∀ d ∈ tables_1, d.before a0 Z = true) (a : Addr) (ka : ClassId) (u0 u1 : Int64) (h0 : Heap) (O0 : Ext Z.heap h0) (VA : Arv Z h0 a ka .long (2 : Int32) [(.long u0), (.long u1)] (.long 0)) :
    Con l (⟨"java/util/Arrays", "copyOf", "([JI)[J"⟩ : MethodName) jdk_65_method_124_code 3 (some (.array .long)) ({ frames := 1, cells := 1, slots := 4, locals := 18 } : Room) Z #[(.ref a), (.int (4 : Int32))] h0 (fun v h L => ∃ (b : Addr) (kb : ClassId), v = some (.ref b) ∧ Fr Z.heap.size L ∧ Keep h0 h [] ∧ h0.size ≤ b ∧ Arv Z h b kb .long (4 : Int32) [(.long u0), (.long u1), (.long (0 : Int64)), (.long (0 : Int64))] (.long 0)) := by
  refine Con.of (plainFor_of_name pn_1) (Ls := #[rv a, iv (4 : Int32), .unset]) (fun m => efOf rfl) ?_
  intro p e s m below meth c T0 X0 hx hZ hby hml hown hnm hret hlk e0
  refine go (fun _ => XS.iloadN X0.here hx rfl (hb hby d4_0) rfl) ?_
  refine go (fun _ => XS.aloadN X0.here hx rfl (hb hby d4_1) rfl rfl) ?_
  show Ends p e below s _ _ _ T0 (mkF m 2 #[rv a, iv (4 : Int32), .unset] [(.ref a), (.int (4 : Int32))])
  obtain ⟨cl93, A93, -, S93, M93, -⟩ := id VA
  refine go (fun _ => X0.arraylength hx (cell := cl93) (by rw [e0]; exact A93.1) (State.isArrayOf_alike hZ.alike A93.2.1) (g := (mkF m 2 #[rv a, iv (4 : Int32), .unset] [(.ref a), (.int (4 : Int32))])) rfl rfl (hb hby d4_2) _) ?_
  rw [len_of S93 M93]
  show Ends p e below s _ _ _ T0 (mkF m 3 #[rv a, iv (4 : Int32), .unset] [(.int (2 : Int32)), (.int (4 : Int32))])
  refine go (fun _ => XS.icmpYes X0.here hx rfl (pc0 := 3) (pc' := 14) rfl (hb hby d4_3) rfl (XT.ii_ne_t ((by decide) : ¬ ((4 : Int32) = (2 : Int32)))) (by decide) (by decide)) ?_
  show Ends p e below s _ _ _ T0 (mkF m 14 #[rv a, iv (4 : Int32), .unset] [])
  refine go (fun _ => XS.iloadN X0.here hx rfl (hb hby d4_14) rfl) ?_
  show Ends p e below s _ _ _ T0 (mkF m 15 #[rv a, iv (4 : Int32), .unset] [(.int (4 : Int32))])
  obtain ⟨T94, h94, k94, X94, e94, E94, A94, s94⟩ := newP X0 hx hZ (hwi hw 57 rfl) e0 (g := (mkF m 15 #[rv a, iv (4 : Int32), .unset] [(.int (4 : Int32))])) rfl (hb hby d4_15) rfl (by decide) (cap := 4) (by decide) (by decide) (by decide) (by decide)
  obtain ⟨a94, g94⟩ : ∃ z : Addr, z = h0.size := ⟨_, rfl⟩
  have n95 : a ≠ a94 := fun q => absurd (VA.lt) (by rw [q, g94]; exact Nat.lt_irrefl _)
  have f94 : Z.heap.size ≤ a94 := by rw [g94]; exact (O0).1
  have K96 : Keep h0 h0 [] := (Keep.refl _ _)
  have b94 : h0.size ≤ a94 := by rw [g94]; exact (K96).1
  rw [← g94] at A94 s94
  have O97 : Ext Z.heap h94 := xx O0 E94
  have V94 : Arv Z h94 a94 k94 .long (4 : Int32) [(.long (0 : Int64)), (.long (0 : Int64)), (.long (0 : Int64)), (.long (0 : Int64))] (.long 0) := Arv.pad (Arv.new A94 (by decide)) (pad_rep [] _ 4)
  refine go s94 ?_
  show Ends p e below s _ _ _ T94 (mkF m 17 #[rv a, iv (4 : Int32), .unset] [(.ref a94)])
  refine go (fun _ => XS.astoreN X94.here hx rfl (hb hby d4_17) rfl rfl (l' := #[rv a, iv (4 : Int32), rv a94]) rfl) ?_
  refine go (fun _ => XS.aloadN X94.here hx rfl (hb hby d4_18) rfl rfl) ?_
  refine go (fun _ => XT.iconstV X94.here hx rfl (0 : Int32) (hb hby d4_19) (by decide)) ?_
  refine go (fun _ => XS.aloadN X94.here hx rfl (hb hby d4_20) rfl rfl) ?_
  refine go (fun _ => XT.iconstV X94.here hx rfl (0 : Int32) (hb hby d4_21) (by decide)) ?_
  refine go (fun _ => XS.aloadN X94.here hx rfl (hb hby d4_22) rfl rfl) ?_
  show Ends p e below s _ _ _ T94 (mkF m 23 #[rv a, iv (4 : Int32), rv a94] [(.ref a), (.int (0 : Int32)), (.ref a94), (.int (0 : Int32)), (.ref a)])
  have F98 := (Arv.ext VA E94)
  obtain ⟨cl99, A99, -, S99, M99, -⟩ := id F98
  refine go (fun _ => X94.arraylength hx (cell := cl99) (by rw [e94]; exact A99.1) (State.isArrayOf_alike hZ.alike A99.2.1) (g := (mkF m 23 #[rv a, iv (4 : Int32), rv a94] [(.ref a), (.int (0 : Int32)), (.ref a94), (.int (0 : Int32)), (.ref a)])) rfl rfl (hb hby d4_23) _) ?_
  rw [len_of S99 M99]
  show Ends p e below s _ _ _ T94 (mkF m 24 #[rv a, iv (4 : Int32), rv a94] [(.int (2 : Int32)), (.int (0 : Int32)), (.ref a94), (.int (0 : Int32)), (.ref a)])
  refine go (fun _ => XS.iloadN X94.here hx rfl (hb hby d4_24) rfl) ?_
  show Ends p e below s _ _ _ T94 (mkF m 25 #[rv a, iv (4 : Int32), rv a94] [(.int (4 : Int32)), (.int (2 : Int32)), (.int (0 : Int32)), (.ref a94), (.int (0 : Int32)), (.ref a)])
  refine cStat X94 hx hZ hown (by rw [hml]; rfl) e94 (hwi hw 47 rfl) (hwi hw 48 rfl) (hwi hw 40 rfl) (hwi hw 49 rfl) [(.int (2 : Int32)), (.int (4 : Int32))] [(.int (0 : Int32)), (.ref a94), (.int (0 : Int32)), (.ref a)] rfl (rm_min_2_4 hw _) (hb hby d4_25) rfl (lenOf pd_2 rfl) (by decide) (by decide) (Nat.le_of_ble_eq_true rfl) (by decide) (by decide) ?_
  rintro v100 T100 h100 L100 X100 e100 ⟨rfl, N100, rfl⟩
  have N100a := Fr.app (Fr.nil _) N100
  show Ends p e below s _ _ _ T100 (mkF m 28 #[rv a, iv (4 : Int32), rv a94] [(.int (2 : Int32)), (.int (0 : Int32)), (.ref a94), (.int (0 : Int32)), (.ref a)])
  obtain ⟨T101, h101, L101, X101, e101, N101, K101, V101, s101⟩ := cpA X100 hx hZ hown (hwi hw 50 rfl) (hwi hw 53 rfl) (hwi hw 51 rfl) (hwi hw 52 rfl) e100 F98 V94 (us := [(.long u0), (.long u1)]) (Or.inl ⟨rfl, rfl⟩) (sp := (0 : Int32)) (dp := (0 : Int32)) (nn := (2 : Int32)) (by decide) (by decide) (by decide) (by decide) (by decide) rfl (Nat.le_of_ble_eq_true rfl) N100a f94 (g := (mkF m 28 #[rv a, iv (4 : Int32), rv a94] [(.int (2 : Int32)), (.int (0 : Int32)), (.ref a94), (.int (0 : Int32)), (.ref a)])) rfl (by rw [hml]; rfl) rfl (hb hby d4_28) (by decide) (W := 0) (by show 2 * 0 + _ ≤ _; exact Nat.le_of_eq rfl) (by decide)
  have O102 : Ext Z.heap h101 := xk O97 K101 (allS f94 all0)
  have V101l : Arv Z h101 a94 k94 .long (4 : Int32) [(.long u0), (.long u1), (.long (0 : Int64)), (.long (0 : Int64))] (.long 0) := V101
  refine go s101 ?_
  show Ends p e below s _ _ _ T101 (mkF m 31 #[rv a, iv (4 : Int32), rv a94] [])
  refine go (fun _ => XS.aloadN X101.here hx rfl (hb hby d4_31) rfl rfl) ?_
  show Ends p e below s _ _ _ T101 (mkF m 32 #[rv a, iv (4 : Int32), rv a94] [(.ref a94)])
  have K103 : Keep h0 h101 [] := (Keep.trans (Keep.ext K96 E94) K101 (allS (Or.inr b94) all0))
  exact endA X101 hx hlk hret rfl rfl (hb hby d4_32) e101 ⟨a94, _, rfl, N101, K103, b94, V101l⟩ (by decide) (by decide)
set_option maxRecDepth 65536 in
set_option maxHeartbeats 40000000 in
theorem rm_grow2 {l : Launch} {Z : State} {a0 : Array Value} (hw : ∀ d ∈ tables_1, d.before a0 Z = true) (a ai aw : Addr) (ki kw : ClassId) (i0 i1 : Int32) (w0 w1 : Int64) (h0 : Heap) (O0 : Ext Z.heap h0) (f0 : Z.heap.size ≤ a) (E0 : Exa Z h0 a "com/example/libtbox/libtbox/core/SparseBitSet") (P0 : Fld Z h0 a "com/example/libtbox/libtbox/core/SparseBitSet" "indices" "[I" (.ref ai)) (P1 : Fld Z h0 a "com/example/libtbox/libtbox/core/SparseBitSet" "words" "[J" (.ref aw)) (P2 : Fld Z h0 a "com/example/libtbox/libtbox/core/SparseBitSet" "count" "I" (.int (2 : Int32))) (P3 : Fld Z h0 a "com/example/libtbox/libtbox/core/SparseBitSet" "lastFound" "I" (.int (0 : Int32))) (P4 : Arv Z h0 ai ki .int (2 : Int32) [(.int i0), (.int i1)] (.int 0)) (P5 : Arv Z h0 aw kw .long (2 : Int32) [(.long w0), (.long w1)] (.long 0)) (fi : Z.heap.size ≤ ai) (fw : Z.heap.size ≤ aw) (nai : a ≠ ai) (naw : a ≠ aw) (niw : ai ≠ aw)  :
    Con l (⟨"com/example/libtbox/libtbox/core/SparseBitSet", "grow", "(I)V"⟩ : MethodName) prog_51_method_20_code 3 none ({ frames := 2, cells := 2, slots := 8, locals := 33 } : Room) Z #[(.ref a), (.int (3 : Int32))] h0 (fun v h L => v = none ∧ Fr Z.heap.size L ∧ ∃ (bi bw : Addr) (k1 k2 : ClassId), Keep h0 h [a] ∧ h0.size ≤ bi ∧ h0.size ≤ bw ∧ bi ≠ bw ∧ Fld Z h a "com/example/libtbox/libtbox/core/SparseBitSet" "indices" "[I" (.ref bi) ∧ Fld Z h a "com/example/libtbox/libtbox/core/SparseBitSet" "words" "[J" (.ref bw) ∧ Fld Z h a "com/example/libtbox/libtbox/core/SparseBitSet" "count" "I" (.int (2 : Int32)) ∧ Fld Z h a "com/example/libtbox/libtbox/core/SparseBitSet" "lastFound" "I" (.int (0 : Int32)) ∧ Arv Z h bi k1 .int (4 : Int32) [(.int i0), (.int i1), (.int (0 : Int32)), (.int (0 : Int32))] (.int 0) ∧ Arv Z h bw k2 .long (4 : Int32) [(.long w0), (.long w1), (.long (0 : Int64)), (.long (0 : Int64))] (.long 0)) := by
  refine Con.of (plainFor_of_name pn_0) (Ls := #[rv a, iv (3 : Int32), .unset]) (fun m => efOf rfl) ?_
  intro p e s m below meth c T0 X0 hx hZ hby hml hown hnm hret hlk e0
  refine go (fun _ => XS.iloadN X0.here hx rfl (hb hby d5_0) rfl) ?_
  refine go (fun _ => XS.aloadN X0.here hx rfl (hb hby d5_1) rfl rfl) ?_
  show Ends p e below s _ _ _ T0 (mkF m 2 #[rv a, iv (3 : Int32), .unset] [(.ref a), (.int (3 : Int32))])
  obtain ⟨T104, X104, e104, s104⟩ := getF X0 hx hZ hown (host := "") (Or.inl (hwi hw 11 rfl)) Via.refl e0 P0 (g := (mkF m 2 #[rv a, iv (3 : Int32), .unset] [(.ref a), (.int (3 : Int32))])) rfl rfl (hb hby d5_2)
  refine go s104 ?_
  show Ends p e below s _ _ _ T104 (mkF m 5 #[rv a, iv (3 : Int32), .unset] [(.ref ai), (.int (3 : Int32))])
  obtain ⟨cl105, A105, -, S105, M105, -⟩ := id P4
  refine go (fun _ => X104.arraylength hx (cell := cl105) (by rw [e104]; exact A105.1) (State.isArrayOf_alike hZ.alike A105.2.1) (g := (mkF m 5 #[rv a, iv (3 : Int32), .unset] [(.ref ai), (.int (3 : Int32))])) rfl rfl (hb hby d5_5) _) ?_
  rw [len_of S105 M105]
  show Ends p e below s _ _ _ T104 (mkF m 6 #[rv a, iv (3 : Int32), .unset] [(.int (2 : Int32)), (.int (3 : Int32))])
  refine go (fun _ => XS.icmpNo X104.here hx rfl (hb hby d5_6) rfl (XT.ii_le_f ((by decide) : (2 : Int32) < (3 : Int32)))) ?_
  show Ends p e below s _ _ _ T104 (mkF m 9 #[rv a, iv (3 : Int32), .unset] [])
  refine go (fun _ => XS.iloadN X104.here hx rfl (hb hby d5_9) rfl) ?_
  refine go (fun _ => XT.iconstV X104.here hx rfl (2 : Int32) (hb hby d5_10) (by decide)) ?_
  refine go (fun _ => XS.aloadN X104.here hx rfl (hb hby d5_11) rfl rfl) ?_
  show Ends p e below s _ _ _ T104 (mkF m 12 #[rv a, iv (3 : Int32), .unset] [(.ref a), (.int (2 : Int32)), (.int (3 : Int32))])
  obtain ⟨T106, X106, e106, s106⟩ := getF X104 hx hZ hown (host := "") (Or.inl (hwi hw 11 rfl)) Via.refl e104 P0 (g := (mkF m 12 #[rv a, iv (3 : Int32), .unset] [(.ref a), (.int (2 : Int32)), (.int (3 : Int32))])) rfl rfl (hb hby d5_12)
  refine go s106 ?_
  show Ends p e below s _ _ _ T106 (mkF m 15 #[rv a, iv (3 : Int32), .unset] [(.ref ai), (.int (2 : Int32)), (.int (3 : Int32))])
  obtain ⟨cl107, A107, -, S107, M107, -⟩ := id P4
  refine go (fun _ => X106.arraylength hx (cell := cl107) (by rw [e106]; exact A107.1) (State.isArrayOf_alike hZ.alike A107.2.1) (g := (mkF m 15 #[rv a, iv (3 : Int32), .unset] [(.ref ai), (.int (2 : Int32)), (.int (3 : Int32))])) rfl rfl (hb hby d5_15) _) ?_
  rw [len_of S107 M107]
  show Ends p e below s _ _ _ T106 (mkF m 16 #[rv a, iv (3 : Int32), .unset] [(.int (2 : Int32)), (.int (2 : Int32)), (.int (3 : Int32))])
  refine go (fun _ => XT.iconstV X106.here hx rfl (2 : Int32) (hb hby d5_16) (by decide)) ?_
  refine go (fun _ => XS.imul X106.here hx rfl (hb hby d5_17) rfl) ?_
  show Ends p e below s _ _ _ T106 (mkF m 18 #[rv a, iv (3 : Int32), .unset] [(.int (4 : Int32)), (.int (2 : Int32)), (.int (3 : Int32))])
  refine cStat X106 hx hZ hown (by rw [hml]; rfl) e106 (hwi hw 38 rfl) (hwi hw 39 rfl) (hwi hw 40 rfl) (hwi hw 41 rfl) [(.int (2 : Int32)), (.int (4 : Int32))] [(.int (3 : Int32))] rfl (rm_max_2_4 hw _) (hb hby d5_18) rfl (lenOf pd_2 rfl) (by decide) (by decide) (Nat.le_of_ble_eq_true rfl) (by decide) (by decide) ?_
  rintro v108 T108 h108 L108 X108 e108 ⟨rfl, N108, rfl⟩
  have N108a := Fr.app (Fr.nil _) N108
  show Ends p e below s _ _ _ T108 (mkF m 21 #[rv a, iv (3 : Int32), .unset] [(.int (4 : Int32)), (.int (3 : Int32))])
  refine cStat X108 hx hZ hown (by rw [hml]; rfl) e108 (hwi hw 38 rfl) (hwi hw 39 rfl) (hwi hw 40 rfl) (hwi hw 41 rfl) [(.int (3 : Int32)), (.int (4 : Int32))] [] rfl (rm_max_3_4 hw _) (hb hby d5_21) rfl (lenOf pd_2 rfl) (by decide) (by decide) (Nat.le_of_ble_eq_true rfl) (by decide) (by decide) ?_
  rintro v109 T109 h109 L109 X109 e109 ⟨rfl, N109, rfl⟩
  have N109a := Fr.app N108a N109
  show Ends p e below s _ _ _ T109 (mkF m 24 #[rv a, iv (3 : Int32), .unset] [(.int (4 : Int32))])
  refine go (fun _ => XS.istoreN X109.here hx rfl (hb hby d5_24) rfl (l' := #[rv a, iv (3 : Int32), iv (4 : Int32)]) rfl) ?_
  refine go (fun _ => XS.aloadN X109.here hx rfl (hb hby d5_25) rfl rfl) ?_
  refine go (fun _ => XS.aloadN X109.here hx rfl (hb hby d5_26) rfl rfl) ?_
  show Ends p e below s _ _ _ T109 (mkF m 27 #[rv a, iv (3 : Int32), iv (4 : Int32)] [(.ref a), (.ref a)])
  obtain ⟨T110, X110, e110, s110⟩ := getF X109 hx hZ hown (host := "") (Or.inl (hwi hw 11 rfl)) Via.refl e109 P0 (g := (mkF m 27 #[rv a, iv (3 : Int32), iv (4 : Int32)] [(.ref a), (.ref a)])) rfl rfl (hb hby d5_27)
  refine go s110 ?_
  show Ends p e below s _ _ _ T110 (mkF m 30 #[rv a, iv (3 : Int32), iv (4 : Int32)] [(.ref ai), (.ref a)])
  refine go (fun _ => XS.iloadN X110.here hx rfl (hb hby d5_30) rfl) ?_
  show Ends p e below s _ _ _ T110 (mkF m 31 #[rv a, iv (3 : Int32), iv (4 : Int32)] [(.int (4 : Int32)), (.ref ai), (.ref a)])
  refine cStat X110 hx hZ hown (by rw [hml]; rfl) e110 (hwi hw 42 rfl) (hwi hw 43 rfl) (hwi hw 44 rfl) (hwi hw 45 rfl) [(.ref ai), (.int (4 : Int32))] [(.ref a)] rfl (rm_copyI_2_4 hw ai ki i0 i1 _ O0 P4) (hb hby d5_31) rfl (lenOf pd_3 rfl) (by decide) (by decide) (Nat.le_of_ble_eq_true rfl) (by decide) (by decide) ?_
  rintro v111 T111 h111 L111 X111 e111 ⟨b111, kb111, rfl, N111, K111, g111, V111⟩
  have N111a := Fr.app N109a N111
  have n112 : a ≠ b111 := Nat.ne_of_lt (Nat.lt_of_lt_of_le (E0.lt) g111)
  have n113 : ai ≠ b111 := Nat.ne_of_lt (Nat.lt_of_lt_of_le (P4.lt) g111)
  have n114 : aw ≠ b111 := Nat.ne_of_lt (Nat.lt_of_lt_of_le (P5.lt) g111)
  have f115 : Z.heap.size ≤ b111 := Nat.le_trans (O0).1 g111
  have K116 : Keep h0 h0 [a] := (Keep.refl _ _)
  have b115 : h0.size ≤ b111 := Nat.le_trans (K116).1 g111
  have O117 : Ext Z.heap h111 := xk O0 K111 all0
  show Ends p e below s _ _ _ T111 (mkF m 34 #[rv a, iv (3 : Int32), iv (4 : Int32)] [(.ref b111), (.ref a)])
  have F118 := (Exa.keep E0 K111)
  have F119 := (Fld.keep P0 K111 nin0)
  obtain ⟨T120, h120, X120, e120, W120, s120⟩ := putF X111 hx hZ hown (host := "") (Or.inl (hwi hw 11 rfl)) Via.refl e111 F119 F118 (Or.inl (hwi hw 12 rfl)) (hwi hw 1 rfl) (ty := (.array .int)) (by decide) rfl rfl (g := (mkF m 34 #[rv a, iv (3 : Int32), iv (4 : Int32)] [(.ref b111), (.ref a)])) rfl rfl (hb hby d5_34)
  have N120 := Fr.snoc X120 N111a f0
  have O121 : Ext Z.heap h120 := xw O117 W120 f0
  refine go s120 ?_
  show Ends p e below s _ _ _ T120 (mkF m 37 #[rv a, iv (3 : Int32), iv (4 : Int32)] [])
  refine go (fun _ => XS.aloadN X120.here hx rfl (hb hby d5_37) rfl rfl) ?_
  refine go (fun _ => XS.aloadN X120.here hx rfl (hb hby d5_38) rfl rfl) ?_
  show Ends p e below s _ _ _ T120 (mkF m 39 #[rv a, iv (3 : Int32), iv (4 : Int32)] [(.ref a), (.ref a)])
  have F122 := (Fld.other W120 (Fld.keep P1 K111 nin0) (Or.inr (slot_ne (a0 := a0) (Or.inl (hwi hw 16 rfl)) (Or.inl (hwi hw 12 rfl)) (by decide) (t := (.array .long)) (t' := (.array .int)) (by decide) (by decide))))
  obtain ⟨T123, X123, e123, s123⟩ := getF X120 hx hZ hown (host := "") (Or.inl (hwi hw 15 rfl)) Via.refl e120 F122 (g := (mkF m 39 #[rv a, iv (3 : Int32), iv (4 : Int32)] [(.ref a), (.ref a)])) rfl rfl (hb hby d5_39)
  refine go s123 ?_
  show Ends p e below s _ _ _ T123 (mkF m 42 #[rv a, iv (3 : Int32), iv (4 : Int32)] [(.ref aw), (.ref a)])
  refine go (fun _ => XS.iloadN X123.here hx rfl (hb hby d5_42) rfl) ?_
  show Ends p e below s _ _ _ T123 (mkF m 43 #[rv a, iv (3 : Int32), iv (4 : Int32)] [(.int (4 : Int32)), (.ref aw), (.ref a)])
  have F124 := (Arv.other (Arv.keep P5 K111 nin0) W120 (Ne.symm naw))
  refine cStat X123 hx hZ hown (by rw [hml]; rfl) e123 (hwi hw 54 rfl) (hwi hw 55 rfl) (hwi hw 44 rfl) (hwi hw 56 rfl) [(.ref aw), (.int (4 : Int32))] [(.ref a)] rfl (rm_copyJ_2_4 hw aw kw w0 w1 _ O121 F124) (hb hby d5_43) rfl (lenOf pd_4 rfl) (by decide) (by decide) (Nat.le_of_ble_eq_true rfl) (by decide) (by decide) ?_
  rintro v125 T125 h125 L125 X125 e125 ⟨b125, kb125, rfl, N125, K125, g125, V125⟩
  have N125a := Fr.app N120 N125
  have F126 := (Exa.wr W120 F118)
  have n127 : a ≠ b125 := Nat.ne_of_lt (Nat.lt_of_lt_of_le (F126.lt) g125)
  have F128 := (Arv.other (Arv.keep P4 K111 nin0) W120 (Ne.symm nai))
  have n129 : ai ≠ b125 := Nat.ne_of_lt (Nat.lt_of_lt_of_le (F128.lt) g125)
  have n130 : aw ≠ b125 := Nat.ne_of_lt (Nat.lt_of_lt_of_le (F124.lt) g125)
  have F131 := (Arv.other V111 W120 (Ne.symm n112))
  have n132 : b111 ≠ b125 := Nat.ne_of_lt (Nat.lt_of_lt_of_le (F131.lt) g125)
  have f133 : Z.heap.size ≤ b125 := Nat.le_trans (O121).1 g125
  have K134 : Keep h0 h120 [a] := (Keep.wr (Keep.trans K116 K111 all0) W120 (Or.inl (List.mem_of_getElem? (i := 0) rfl)))
  have b133 : h0.size ≤ b125 := Nat.le_trans (K134).1 g125
  have O135 : Ext Z.heap h125 := xk O121 K125 all0
  show Ends p e below s _ _ _ T125 (mkF m 46 #[rv a, iv (3 : Int32), iv (4 : Int32)] [(.ref b125), (.ref a)])
  have F136 := (Exa.keep F126 K125)
  have F137 := (Fld.keep F122 K125 nin0)
  obtain ⟨T138, h138, X138, e138, W138, s138⟩ := putF X125 hx hZ hown (host := "") (Or.inl (hwi hw 15 rfl)) Via.refl e125 F137 F136 (Or.inl (hwi hw 16 rfl)) (hwi hw 1 rfl) (ty := (.array .long)) (by decide) rfl rfl (g := (mkF m 46 #[rv a, iv (3 : Int32), iv (4 : Int32)] [(.ref b125), (.ref a)])) rfl rfl (hb hby d5_46)
  have N138 := Fr.snoc X138 N125a f0
  have O139 : Ext Z.heap h138 := xw O135 W138 f0
  refine go s138 ?_
  show Ends p e below s _ _ _ T138 (mkF m 49 #[rv a, iv (3 : Int32), iv (4 : Int32)] [])
  have F140 := (Fld.other W138 (Fld.keep (Fld.same W120 F119) K125 nin0) (Or.inr (slot_ne (a0 := a0) (Or.inl (hwi hw 12 rfl)) (Or.inl (hwi hw 16 rfl)) (by decide) (t := (.array .int)) (t' := (.array .long)) (by decide) (by decide))))
  have F141 := (Fld.same W138 F137)
  have F142 := (Fld.other W138 (Fld.keep (Fld.other W120 (Fld.keep P2 K111 nin0) (Or.inr (slot_ne (a0 := a0) (Or.inl (hwi hw 29 rfl)) (Or.inl (hwi hw 12 rfl)) (by decide) (t := .int) (t' := (.array .int)) (by decide) (by decide)))) K125 nin0) (Or.inr (slot_ne (a0 := a0) (Or.inl (hwi hw 29 rfl)) (Or.inl (hwi hw 16 rfl)) (by decide) (t := .int) (t' := (.array .long)) (by decide) (by decide))))
  have F143 := (Fld.other W138 (Fld.keep (Fld.other W120 (Fld.keep P3 K111 nin0) (Or.inr (slot_ne (a0 := a0) (Or.inl (hwi hw 27 rfl)) (Or.inl (hwi hw 12 rfl)) (by decide) (t := .int) (t' := (.array .int)) (by decide) (by decide)))) K125 nin0) (Or.inr (slot_ne (a0 := a0) (Or.inl (hwi hw 27 rfl)) (Or.inl (hwi hw 16 rfl)) (by decide) (t := .int) (t' := (.array .long)) (by decide) (by decide))))
  have F144 := (Arv.other (Arv.keep F131 K125 nin0) W138 (Ne.symm n112))
  have F145 := (Arv.other V125 W138 (Ne.symm n127))
  have K146 : Keep h0 h138 [a] := (Keep.wr (Keep.trans K134 K125 all0) W138 (Or.inl (List.mem_of_getElem? (i := 0) rfl)))
  exact endV X138 hx hlk hret (hb hby d5_49) e138 ⟨rfl, N138, ⟨b111, b125, _, _, K146, b115, b133, n132, F140, F141, F142, F143, F144, F145⟩⟩ (by decide) (by decide)
set_option maxRecDepth 65536 in
set_option maxHeartbeats 40000000 in
theorem rm_ins0_0 {l : Launch} {Z : State} {a0 : Array Value} (hw : ∀ d ∈ tables_1, d.before a0 Z = true) (a ai aw : Addr) (ki kw : ClassId)  (ix : Int32) (h0 : Heap) (O0 : Ext Z.heap h0) (f0 : Z.heap.size ≤ a) (E0 : Exa Z h0 a "com/example/libtbox/libtbox/core/SparseBitSet") (P0 : Fld Z h0 a "com/example/libtbox/libtbox/core/SparseBitSet" "indices" "[I" (.ref ai)) (P1 : Fld Z h0 a "com/example/libtbox/libtbox/core/SparseBitSet" "words" "[J" (.ref aw)) (P2 : Fld Z h0 a "com/example/libtbox/libtbox/core/SparseBitSet" "count" "I" (.int (0 : Int32))) (P3 : Fld Z h0 a "com/example/libtbox/libtbox/core/SparseBitSet" "lastFound" "I" (.int (0 : Int32))) (P4 : Arv Z h0 ai ki .int (0 : Int32) [] (.int 0)) (P5 : Arv Z h0 aw kw .long (0 : Int32) [] (.long 0)) (nai : a ≠ ai) (naw : a ≠ aw)  :
    Con l (⟨"com/example/libtbox/libtbox/core/SparseBitSet", "insert", "(II)V"⟩ : MethodName) prog_51_method_19_code 3 none ({ frames := 3, cells := 2, slots := 4, locals := 47 } : Room) Z #[(.ref a), (.int (0 : Int32)), (.int ix)] h0 (fun v h L => v = none ∧ Fr Z.heap.size L ∧ ∃ (bi bw : Addr) (k1 k2 : ClassId), Keep h0 h [a] ∧ h0.size ≤ bi ∧ h0.size ≤ bw ∧ bi ≠ bw ∧ Fld Z h a "com/example/libtbox/libtbox/core/SparseBitSet" "indices" "[I" (.ref bi) ∧ Fld Z h a "com/example/libtbox/libtbox/core/SparseBitSet" "words" "[J" (.ref bw) ∧ Fld Z h a "com/example/libtbox/libtbox/core/SparseBitSet" "count" "I" (.int (1 : Int32)) ∧ Fld Z h a "com/example/libtbox/libtbox/core/SparseBitSet" "lastFound" "I" (.int (0 : Int32)) ∧ Arv Z h bi k1 .int (2 : Int32) [(.int ix), (.int (0 : Int32))] (.int 0) ∧ Arv Z h bw k2 .long (2 : Int32) [(.long (0 : Int64)), (.long (0 : Int64))] (.long 0)) := by
  refine Con.of (plainFor_of_name pn_0) (Ls := #[rv a, iv (0 : Int32), iv ix]) (fun m => efOf rfl) ?_
  intro p e s m below meth c T0 X0 hx hZ hby hml hown hnm hret hlk e0
  refine go (fun _ => XS.aloadN X0.here hx rfl (hb hby d6_0) rfl rfl) ?_
  refine go (fun _ => XS.aloadN X0.here hx rfl (hb hby d6_1) rfl rfl) ?_
  show Ends p e below s _ _ _ T0 (mkF m 2 #[rv a, iv (0 : Int32), iv ix] [(.ref a), (.ref a)])
  obtain ⟨T147, X147, e147, s147⟩ := getF X0 hx hZ hown (host := "") (Or.inl (hwi hw 28 rfl)) Via.refl e0 P2 (g := (mkF m 2 #[rv a, iv (0 : Int32), iv ix] [(.ref a), (.ref a)])) rfl rfl (hb hby d6_2)
  refine go s147 ?_
  show Ends p e below s _ _ _ T147 (mkF m 5 #[rv a, iv (0 : Int32), iv ix] [(.int (0 : Int32)), (.ref a)])
  refine go (fun _ => XT.iconstV X147.here hx rfl (1 : Int32) (hb hby d6_5) (by decide)) ?_
  refine go (fun _ => XS.iadd X147.here hx rfl (hb hby d6_6) rfl) ?_
  show Ends p e below s _ _ _ T147 (mkF m 7 #[rv a, iv (0 : Int32), iv ix] [(.int (1 : Int32)), (.ref a)])
  refine cPriv X147 hx hZ hown (by rw [hml]; rfl) e147 (hwi hw 34 rfl) (hwi hw 35 rfl) (hwi hw 36 rfl) (hwi hw 1 rfl) (hwi hw 2 rfl) (hwi hw 37 rfl) a E0 [(.int (1 : Int32))] [] rfl (rm_grow0 hw a ai aw ki kw  _ O0 f0 E0 P0 P1 P2 P3 P4 P5 nai naw) (hb hby d6_7) rfl (lenOf pd_5 rfl) (by decide) (by decide) (Nat.le_of_ble_eq_true rfl) (by decide) (by decide) ?_
  rintro v148 T148 h148 L148 X148 e148 ⟨rfl, N148, ⟨bi148, bw148, k1148, k2148, K148, ga148, gb148, nn148, Q148_0, Q148_1, Q148_2, Q148_3, Q148_4, Q148_5⟩⟩
  have N148a := Fr.app (Fr.nil _) N148
  have n149 : a ≠ bi148 := Nat.ne_of_lt (Nat.lt_of_lt_of_le (E0.lt) ga148)
  have n150 : ai ≠ bi148 := Nat.ne_of_lt (Nat.lt_of_lt_of_le (P4.lt) ga148)
  have n151 : aw ≠ bi148 := Nat.ne_of_lt (Nat.lt_of_lt_of_le (P5.lt) ga148)
  have f152 : Z.heap.size ≤ bi148 := Nat.le_trans (O0).1 ga148
  have K153 : Keep h0 h0 [a] := (Keep.refl _ _)
  have b152 : h0.size ≤ bi148 := Nat.le_trans (K153).1 ga148
  have n154 : a ≠ bw148 := Nat.ne_of_lt (Nat.lt_of_lt_of_le (E0.lt) gb148)
  have n155 : ai ≠ bw148 := Nat.ne_of_lt (Nat.lt_of_lt_of_le (P4.lt) gb148)
  have n156 : aw ≠ bw148 := Nat.ne_of_lt (Nat.lt_of_lt_of_le (P5.lt) gb148)
  have f157 : Z.heap.size ≤ bw148 := Nat.le_trans (O0).1 gb148
  have b157 : h0.size ≤ bw148 := Nat.le_trans (K153).1 gb148
  have O158 : Ext Z.heap h148 := xk O0 K148 (allS f0 all0)
  show Ends p e below s _ _ _ T148 (mkF m 10 #[rv a, iv (0 : Int32), iv ix] [])
  refine go (fun _ => XS.aloadN X148.here hx rfl (hb hby d6_10) rfl rfl) ?_
  show Ends p e below s _ _ _ T148 (mkF m 11 #[rv a, iv (0 : Int32), iv ix] [(.ref a)])
  obtain ⟨T159, X159, e159, s159⟩ := getF X148 hx hZ hown (host := "") (Or.inl (hwi hw 11 rfl)) Via.refl e148 Q148_0 (g := (mkF m 11 #[rv a, iv (0 : Int32), iv ix] [(.ref a)])) rfl rfl (hb hby d6_11)
  refine go s159 ?_
  show Ends p e below s _ _ _ T159 (mkF m 14 #[rv a, iv (0 : Int32), iv ix] [(.ref bi148)])
  refine go (fun _ => XS.iloadN X159.here hx rfl (hb hby d6_14) rfl) ?_
  refine go (fun _ => XS.aloadN X159.here hx rfl (hb hby d6_15) rfl rfl) ?_
  show Ends p e below s _ _ _ T159 (mkF m 16 #[rv a, iv (0 : Int32), iv ix] [(.ref a), (.int (0 : Int32)), (.ref bi148)])
  obtain ⟨T160, X160, e160, s160⟩ := getF X159 hx hZ hown (host := "") (Or.inl (hwi hw 11 rfl)) Via.refl e159 Q148_0 (g := (mkF m 16 #[rv a, iv (0 : Int32), iv ix] [(.ref a), (.int (0 : Int32)), (.ref bi148)])) rfl rfl (hb hby d6_16)
  refine go s160 ?_
  show Ends p e below s _ _ _ T160 (mkF m 19 #[rv a, iv (0 : Int32), iv ix] [(.ref bi148), (.int (0 : Int32)), (.ref bi148)])
  refine go (fun _ => XS.iloadN X160.here hx rfl (hb hby d6_19) rfl) ?_
  refine go (fun _ => XT.iconstV X160.here hx rfl (1 : Int32) (hb hby d6_20) (by decide)) ?_
  refine go (fun _ => XS.iadd X160.here hx rfl (hb hby d6_21) rfl) ?_
  refine go (fun _ => XS.aloadN X160.here hx rfl (hb hby d6_22) rfl rfl) ?_
  show Ends p e below s _ _ _ T160 (mkF m 23 #[rv a, iv (0 : Int32), iv ix] [(.ref a), (.int (1 : Int32)), (.ref bi148), (.int (0 : Int32)), (.ref bi148)])
  obtain ⟨T161, X161, e161, s161⟩ := getF X160 hx hZ hown (host := "") (Or.inl (hwi hw 28 rfl)) Via.refl e160 Q148_2 (g := (mkF m 23 #[rv a, iv (0 : Int32), iv ix] [(.ref a), (.int (1 : Int32)), (.ref bi148), (.int (0 : Int32)), (.ref bi148)])) rfl rfl (hb hby d6_23)
  refine go s161 ?_
  show Ends p e below s _ _ _ T161 (mkF m 26 #[rv a, iv (0 : Int32), iv ix] [(.int (0 : Int32)), (.int (1 : Int32)), (.ref bi148), (.int (0 : Int32)), (.ref bi148)])
  refine go (fun _ => XS.iloadN X161.here hx rfl (hb hby d6_26) rfl) ?_
  refine go (fun _ => XS.isub X161.here hx rfl (hb hby d6_27) rfl) ?_
  show Ends p e below s _ _ _ T161 (mkF m 28 #[rv a, iv (0 : Int32), iv ix] [(.int (0 : Int32)), (.int (1 : Int32)), (.ref bi148), (.int (0 : Int32)), (.ref bi148)])
  obtain ⟨T162, h162, L162, X162, e162, N162, K162, V162, s162⟩ := cpA X161 hx hZ hown (hwi hw 58 rfl) (hwi hw 53 rfl) (hwi hw 51 rfl) (hwi hw 52 rfl) e161 Q148_4 Q148_4 (us := []) (Or.inl ⟨rfl, rfl⟩) (sp := (0 : Int32)) (dp := (1 : Int32)) (nn := (0 : Int32)) (by decide) (by decide) (by decide) (by decide) (by decide) rfl (Nat.le_of_ble_eq_true rfl) N148a f152 (g := (mkF m 28 #[rv a, iv (0 : Int32), iv ix] [(.int (0 : Int32)), (.int (1 : Int32)), (.ref bi148), (.int (0 : Int32)), (.ref bi148)])) rfl (by rw [hml]; rfl) rfl (hb hby d6_28) (by decide) (W := 0) (by show 2 * 0 + _ ≤ _; exact Nat.le_of_eq rfl) (by decide)
  have O163 : Ext Z.heap h162 := xk O158 K162 (allS f152 all0)
  have V162l : Arv Z h162 bi148 k1148 .int (2 : Int32) [(.int (0 : Int32)), (.int (0 : Int32))] (.int 0) := V162
  refine go s162 ?_
  show Ends p e below s _ _ _ T162 (mkF m 31 #[rv a, iv (0 : Int32), iv ix] [])
  refine go (fun _ => XS.aloadN X162.here hx rfl (hb hby d6_31) rfl rfl) ?_
  show Ends p e below s _ _ _ T162 (mkF m 32 #[rv a, iv (0 : Int32), iv ix] [(.ref a)])
  have F164 := (Fld.keep Q148_1 K162 (ninS n149 nin0))
  obtain ⟨T165, X165, e165, s165⟩ := getF X162 hx hZ hown (host := "") (Or.inl (hwi hw 15 rfl)) Via.refl e162 F164 (g := (mkF m 32 #[rv a, iv (0 : Int32), iv ix] [(.ref a)])) rfl rfl (hb hby d6_32)
  refine go s165 ?_
  show Ends p e below s _ _ _ T165 (mkF m 35 #[rv a, iv (0 : Int32), iv ix] [(.ref bw148)])
  refine go (fun _ => XS.iloadN X165.here hx rfl (hb hby d6_35) rfl) ?_
  refine go (fun _ => XS.aloadN X165.here hx rfl (hb hby d6_36) rfl rfl) ?_
  show Ends p e below s _ _ _ T165 (mkF m 37 #[rv a, iv (0 : Int32), iv ix] [(.ref a), (.int (0 : Int32)), (.ref bw148)])
  obtain ⟨T166, X166, e166, s166⟩ := getF X165 hx hZ hown (host := "") (Or.inl (hwi hw 15 rfl)) Via.refl e165 F164 (g := (mkF m 37 #[rv a, iv (0 : Int32), iv ix] [(.ref a), (.int (0 : Int32)), (.ref bw148)])) rfl rfl (hb hby d6_37)
  refine go s166 ?_
  show Ends p e below s _ _ _ T166 (mkF m 40 #[rv a, iv (0 : Int32), iv ix] [(.ref bw148), (.int (0 : Int32)), (.ref bw148)])
  refine go (fun _ => XS.iloadN X166.here hx rfl (hb hby d6_40) rfl) ?_
  refine go (fun _ => XT.iconstV X166.here hx rfl (1 : Int32) (hb hby d6_41) (by decide)) ?_
  refine go (fun _ => XS.iadd X166.here hx rfl (hb hby d6_42) rfl) ?_
  refine go (fun _ => XS.aloadN X166.here hx rfl (hb hby d6_43) rfl rfl) ?_
  show Ends p e below s _ _ _ T166 (mkF m 44 #[rv a, iv (0 : Int32), iv ix] [(.ref a), (.int (1 : Int32)), (.ref bw148), (.int (0 : Int32)), (.ref bw148)])
  have F167 := (Fld.keep Q148_2 K162 (ninS n149 nin0))
  obtain ⟨T168, X168, e168, s168⟩ := getF X166 hx hZ hown (host := "") (Or.inl (hwi hw 28 rfl)) Via.refl e166 F167 (g := (mkF m 44 #[rv a, iv (0 : Int32), iv ix] [(.ref a), (.int (1 : Int32)), (.ref bw148), (.int (0 : Int32)), (.ref bw148)])) rfl rfl (hb hby d6_44)
  refine go s168 ?_
  show Ends p e below s _ _ _ T168 (mkF m 47 #[rv a, iv (0 : Int32), iv ix] [(.int (0 : Int32)), (.int (1 : Int32)), (.ref bw148), (.int (0 : Int32)), (.ref bw148)])
  refine go (fun _ => XS.iloadN X168.here hx rfl (hb hby d6_47) rfl) ?_
  refine go (fun _ => XS.isub X168.here hx rfl (hb hby d6_48) rfl) ?_
  show Ends p e below s _ _ _ T168 (mkF m 49 #[rv a, iv (0 : Int32), iv ix] [(.int (0 : Int32)), (.int (1 : Int32)), (.ref bw148), (.int (0 : Int32)), (.ref bw148)])
  have F170 := (Arv.keep Q148_5 K162 (ninS (Ne.symm nn148) nin0))
  obtain ⟨T169, h169, L169, X169, e169, N169, K169, V169, s169⟩ := cpA X168 hx hZ hown (hwi hw 58 rfl) (hwi hw 53 rfl) (hwi hw 51 rfl) (hwi hw 52 rfl) e168 F170 F170 (us := []) (Or.inl ⟨rfl, rfl⟩) (sp := (0 : Int32)) (dp := (1 : Int32)) (nn := (0 : Int32)) (by decide) (by decide) (by decide) (by decide) (by decide) rfl (Nat.le_of_ble_eq_true rfl) N162 f157 (g := (mkF m 49 #[rv a, iv (0 : Int32), iv ix] [(.int (0 : Int32)), (.int (1 : Int32)), (.ref bw148), (.int (0 : Int32)), (.ref bw148)])) rfl (by rw [hml]; rfl) rfl (hb hby d6_49) (by decide) (W := 0) (by show 2 * 0 + _ ≤ _; exact Nat.le_of_eq rfl) (by decide)
  have O171 : Ext Z.heap h169 := xk O163 K169 (allS f157 all0)
  have V169l : Arv Z h169 bw148 k2148 .long (2 : Int32) [(.long (0 : Int64)), (.long (0 : Int64))] (.long 0) := V169
  refine go s169 ?_
  show Ends p e below s _ _ _ T169 (mkF m 52 #[rv a, iv (0 : Int32), iv ix] [])
  refine go (fun _ => XS.aloadN X169.here hx rfl (hb hby d6_52) rfl rfl) ?_
  show Ends p e below s _ _ _ T169 (mkF m 53 #[rv a, iv (0 : Int32), iv ix] [(.ref a)])
  have F172 := (Fld.keep (Fld.keep Q148_0 K162 (ninS n149 nin0)) K169 (ninS n154 nin0))
  obtain ⟨T173, X173, e173, s173⟩ := getF X169 hx hZ hown (host := "") (Or.inl (hwi hw 11 rfl)) Via.refl e169 F172 (g := (mkF m 53 #[rv a, iv (0 : Int32), iv ix] [(.ref a)])) rfl rfl (hb hby d6_53)
  refine go s173 ?_
  show Ends p e below s _ _ _ T173 (mkF m 56 #[rv a, iv (0 : Int32), iv ix] [(.ref bi148)])
  refine go (fun _ => XS.iloadN X173.here hx rfl (hb hby d6_56) rfl) ?_
  refine go (fun _ => XS.iloadN X173.here hx rfl (hb hby d6_57) rfl) ?_
  show Ends p e below s _ _ _ T173 (mkF m 58 #[rv a, iv (0 : Int32), iv ix] [(.int ix), (.int (0 : Int32)), (.ref bi148)])
  have F174 := (Arv.keep V162l K169 (ninS nn148 nin0))
  obtain ⟨cl175, A175, q175, S175, M175, H175, G175⟩ := id F174
  obtain ⟨T175, h175, X175, e175, W175, s175⟩ := stI X173 hx hZ e173 A175 (j := (0 : Int32)) (inb_of S175 (by decide)) (g := (mkF m 58 #[rv a, iv (0 : Int32), iv ix] [(.int ix), (.int (0 : Int32)), (.ref bi148)])) rfl rfl (hb hby d6_58)
  have N175 := Fr.snoc X175 N169 f152
  have O176 : Ext Z.heap h175 := xw O171 W175 f152
  have V175 : Arv Z h175 bi148 k1148 .int (2 : Int32) [(.int ix), (.int (0 : Int32))] (.int 0) := Arv.set A175 q175 S175 M175 H175 G175 rfl W175 0 (by decide) (Nat.le_of_ble_eq_true rfl)
  refine go s175 ?_
  show Ends p e below s _ _ _ T175 (mkF m 59 #[rv a, iv (0 : Int32), iv ix] [])
  refine go (fun _ => XS.aloadN X175.here hx rfl (hb hby d6_59) rfl rfl) ?_
  show Ends p e below s _ _ _ T175 (mkF m 60 #[rv a, iv (0 : Int32), iv ix] [(.ref a)])
  have F177 := (Fld.other W175 (Fld.keep F164 K169 (ninS n154 nin0)) (Or.inl n149))
  obtain ⟨T178, X178, e178, s178⟩ := getF X175 hx hZ hown (host := "") (Or.inl (hwi hw 15 rfl)) Via.refl e175 F177 (g := (mkF m 60 #[rv a, iv (0 : Int32), iv ix] [(.ref a)])) rfl rfl (hb hby d6_60)
  refine go s178 ?_
  show Ends p e below s _ _ _ T178 (mkF m 63 #[rv a, iv (0 : Int32), iv ix] [(.ref bw148)])
  refine go (fun _ => XS.iloadN X178.here hx rfl (hb hby d6_63) rfl) ?_
  refine go (fun _ => XT.lconstV X178.here hx rfl (0 : Int64) (hb hby d6_64) (by decide)) ?_
  show Ends p e below s _ _ _ T178 (mkF m 65 #[rv a, iv (0 : Int32), iv ix] [(.long (0 : Int64)), (.int (0 : Int32)), (.ref bw148)])
  have F179 := (Arv.other V169l W175 (Ne.symm nn148))
  obtain ⟨cl180, A180, q180, S180, M180, H180, G180⟩ := id F179
  obtain ⟨T180, h180, X180, e180, W180, s180⟩ := stJ X178 hx hZ e178 A180 (j := (0 : Int32)) (inb_of S180 (by decide)) (g := (mkF m 65 #[rv a, iv (0 : Int32), iv ix] [(.long (0 : Int64)), (.int (0 : Int32)), (.ref bw148)])) rfl rfl (hb hby d6_65)
  have N180 := Fr.snoc X180 N175 f157
  have O181 : Ext Z.heap h180 := xw O176 W180 f157
  have V180 : Arv Z h180 bw148 k2148 .long (2 : Int32) [(.long (0 : Int64)), (.long (0 : Int64))] (.long 0) := Arv.set A180 q180 S180 M180 H180 G180 rfl W180 0 (by decide) (Nat.le_of_ble_eq_true rfl)
  refine go s180 ?_
  show Ends p e below s _ _ _ T180 (mkF m 66 #[rv a, iv (0 : Int32), iv ix] [])
  refine go (fun _ => XS.aloadN X180.here hx rfl (hb hby d6_66) rfl rfl) ?_
  refine go (fun _ => XS.dup X180.here hx rfl (hb hby d6_67) rfl rfl) ?_
  show Ends p e below s _ _ _ T180 (mkF m 68 #[rv a, iv (0 : Int32), iv ix] [(.ref a), (.ref a)])
  have F182 := (Fld.other W180 (Fld.other W175 (Fld.keep F167 K169 (ninS n154 nin0)) (Or.inl n149)) (Or.inl n154))
  obtain ⟨T183, X183, e183, s183⟩ := getF X180 hx hZ hown (host := "") (Or.inl (hwi hw 28 rfl)) Via.refl e180 F182 (g := (mkF m 68 #[rv a, iv (0 : Int32), iv ix] [(.ref a), (.ref a)])) rfl rfl (hb hby d6_68)
  refine go s183 ?_
  show Ends p e below s _ _ _ T183 (mkF m 71 #[rv a, iv (0 : Int32), iv ix] [(.int (0 : Int32)), (.ref a)])
  refine go (fun _ => XT.iconstV X183.here hx rfl (1 : Int32) (hb hby d6_71) (by decide)) ?_
  refine go (fun _ => XS.iadd X183.here hx rfl (hb hby d6_72) rfl) ?_
  show Ends p e below s _ _ _ T183 (mkF m 73 #[rv a, iv (0 : Int32), iv ix] [(.int (1 : Int32)), (.ref a)])
  have F184 := (Exa.wr W180 (Exa.wr W175 (Exa.keep (Exa.keep (Exa.keep E0 K148) K162) K169)))
  obtain ⟨T185, h185, X185, e185, W185, s185⟩ := putF X183 hx hZ hown (host := "") (Or.inl (hwi hw 28 rfl)) Via.refl e183 F182 F184 (Or.inl (hwi hw 29 rfl)) (hwi hw 1 rfl) (ty := .int) (by decide) rfl rfl (g := (mkF m 73 #[rv a, iv (0 : Int32), iv ix] [(.int (1 : Int32)), (.ref a)])) rfl rfl (hb hby d6_73)
  have N185 := Fr.snoc X185 N180 f0
  have O186 : Ext Z.heap h185 := xw O181 W185 f0
  refine go s185 ?_
  show Ends p e below s _ _ _ T185 (mkF m 76 #[rv a, iv (0 : Int32), iv ix] [])
  have F187 := (Fld.other W185 (Fld.other W180 (Fld.other W175 F172 (Or.inl n149)) (Or.inl n154)) (Or.inr (slot_ne (a0 := a0) (Or.inl (hwi hw 12 rfl)) (Or.inl (hwi hw 29 rfl)) (by decide) (t := (.array .int)) (t' := .int) (by decide) (by decide))))
  have F188 := (Fld.other W185 (Fld.other W180 F177 (Or.inl n154)) (Or.inr (slot_ne (a0 := a0) (Or.inl (hwi hw 16 rfl)) (Or.inl (hwi hw 29 rfl)) (by decide) (t := (.array .long)) (t' := .int) (by decide) (by decide))))
  have F189 := (Fld.same W185 F182)
  have F190 := (Fld.other W185 (Fld.other W180 (Fld.other W175 (Fld.keep (Fld.keep Q148_3 K162 (ninS n149 nin0)) K169 (ninS n154 nin0)) (Or.inl n149)) (Or.inl n154)) (Or.inr (slot_ne (a0 := a0) (Or.inl (hwi hw 27 rfl)) (Or.inl (hwi hw 29 rfl)) (by decide) (t := .int) (t' := .int) (by decide) (by decide))))
  have F191 := (Arv.other (Arv.other V175 W180 nn148) W185 (Ne.symm n149))
  have F192 := (Arv.other V180 W185 (Ne.symm n154))
  have K193 : Keep h0 h185 [a] := (Keep.wr (Keep.wr (Keep.wr (Keep.trans (Keep.trans (Keep.trans K153 K148 (allS (Or.inl (List.mem_of_getElem? (i := 0) rfl)) all0)) K162 (allS (Or.inr b152) all0)) K169 (allS (Or.inr b157) all0)) W175 (Or.inr b152)) W180 (Or.inr b157)) W185 (Or.inl (List.mem_of_getElem? (i := 0) rfl)))
  exact endV X185 hx hlk hret (hb hby d6_76) e185 ⟨rfl, N185, ⟨bi148, bw148, _, _, K193, b152, b157, nn148, F187, F188, F189, F190, F191, F192⟩⟩ (by decide) (by decide)
set_option maxRecDepth 65536 in
set_option maxHeartbeats 40000000 in
theorem rm_ins1_0 {l : Launch} {Z : State} {a0 : Array Value} (hw : ∀ d ∈ tables_1, d.before a0 Z = true) (a ai aw : Addr) (ki kw : ClassId) (i0 : Int32) (w0 : Int64) (ix : Int32) (h0 : Heap) (O0 : Ext Z.heap h0) (f0 : Z.heap.size ≤ a) (E0 : Exa Z h0 a "com/example/libtbox/libtbox/core/SparseBitSet") (P0 : Fld Z h0 a "com/example/libtbox/libtbox/core/SparseBitSet" "indices" "[I" (.ref ai)) (P1 : Fld Z h0 a "com/example/libtbox/libtbox/core/SparseBitSet" "words" "[J" (.ref aw)) (P2 : Fld Z h0 a "com/example/libtbox/libtbox/core/SparseBitSet" "count" "I" (.int (1 : Int32))) (P3 : Fld Z h0 a "com/example/libtbox/libtbox/core/SparseBitSet" "lastFound" "I" (.int (0 : Int32))) (P4 : Arv Z h0 ai ki .int (2 : Int32) [(.int i0), (.int (0 : Int32))] (.int 0)) (P5 : Arv Z h0 aw kw .long (2 : Int32) [(.long w0), (.long (0 : Int64))] (.long 0)) (fi : Z.heap.size ≤ ai) (fw : Z.heap.size ≤ aw) (nai : a ≠ ai) (naw : a ≠ aw) (niw : ai ≠ aw)  :
    Con l (⟨"com/example/libtbox/libtbox/core/SparseBitSet", "insert", "(II)V"⟩ : MethodName) prog_51_method_19_code 3 none ({ frames := 1, cells := 0, slots := 0, locals := 18 } : Room) Z #[(.ref a), (.int (0 : Int32)), (.int ix)] h0 (fun v h L => v = none ∧ Fr Z.heap.size L ∧ Keep h0 h [a, ai, aw] ∧ Fld Z h a "com/example/libtbox/libtbox/core/SparseBitSet" "indices" "[I" (.ref ai) ∧ Fld Z h a "com/example/libtbox/libtbox/core/SparseBitSet" "words" "[J" (.ref aw) ∧ Fld Z h a "com/example/libtbox/libtbox/core/SparseBitSet" "count" "I" (.int (2 : Int32)) ∧ Fld Z h a "com/example/libtbox/libtbox/core/SparseBitSet" "lastFound" "I" (.int (0 : Int32)) ∧ Arv Z h ai ki .int (2 : Int32) [(.int ix), (.int i0)] (.int 0) ∧ Arv Z h aw kw .long (2 : Int32) [(.long (0 : Int64)), (.long w0)] (.long 0)) := by
  refine Con.of (plainFor_of_name pn_0) (Ls := #[rv a, iv (0 : Int32), iv ix]) (fun m => efOf rfl) ?_
  intro p e s m below meth c T0 X0 hx hZ hby hml hown hnm hret hlk e0
  refine go (fun _ => XS.aloadN X0.here hx rfl (hb hby d6_0) rfl rfl) ?_
  refine go (fun _ => XS.aloadN X0.here hx rfl (hb hby d6_1) rfl rfl) ?_
  show Ends p e below s _ _ _ T0 (mkF m 2 #[rv a, iv (0 : Int32), iv ix] [(.ref a), (.ref a)])
  obtain ⟨T194, X194, e194, s194⟩ := getF X0 hx hZ hown (host := "") (Or.inl (hwi hw 28 rfl)) Via.refl e0 P2 (g := (mkF m 2 #[rv a, iv (0 : Int32), iv ix] [(.ref a), (.ref a)])) rfl rfl (hb hby d6_2)
  refine go s194 ?_
  show Ends p e below s _ _ _ T194 (mkF m 5 #[rv a, iv (0 : Int32), iv ix] [(.int (1 : Int32)), (.ref a)])
  refine go (fun _ => XT.iconstV X194.here hx rfl (1 : Int32) (hb hby d6_5) (by decide)) ?_
  refine go (fun _ => XS.iadd X194.here hx rfl (hb hby d6_6) rfl) ?_
  show Ends p e below s _ _ _ T194 (mkF m 7 #[rv a, iv (0 : Int32), iv ix] [(.int (2 : Int32)), (.ref a)])
  refine cPriv X194 hx hZ hown (by rw [hml]; rfl) e194 (hwi hw 34 rfl) (hwi hw 35 rfl) (hwi hw 36 rfl) (hwi hw 1 rfl) (hwi hw 2 rfl) (hwi hw 37 rfl) a E0 [(.int (2 : Int32))] [] rfl (rm_grow1 hw a ai aw ki kw i0 w0 _ O0 f0 E0 P0 P1 P2 P3 P4 P5 fi fw nai naw niw) (hb hby d6_7) rfl (lenOf pd_5 rfl) (by decide) (by decide) (Nat.le_of_ble_eq_true rfl) (by decide) (by decide) ?_
  rintro v195 T195 h195 L195 X195 e195 ⟨rfl, N195, rfl⟩
  have N195a := Fr.app (Fr.nil _) N195
  show Ends p e below s _ _ _ T195 (mkF m 10 #[rv a, iv (0 : Int32), iv ix] [])
  refine go (fun _ => XS.aloadN X195.here hx rfl (hb hby d6_10) rfl rfl) ?_
  show Ends p e below s _ _ _ T195 (mkF m 11 #[rv a, iv (0 : Int32), iv ix] [(.ref a)])
  obtain ⟨T196, X196, e196, s196⟩ := getF X195 hx hZ hown (host := "") (Or.inl (hwi hw 11 rfl)) Via.refl e195 P0 (g := (mkF m 11 #[rv a, iv (0 : Int32), iv ix] [(.ref a)])) rfl rfl (hb hby d6_11)
  refine go s196 ?_
  show Ends p e below s _ _ _ T196 (mkF m 14 #[rv a, iv (0 : Int32), iv ix] [(.ref ai)])
  refine go (fun _ => XS.iloadN X196.here hx rfl (hb hby d6_14) rfl) ?_
  refine go (fun _ => XS.aloadN X196.here hx rfl (hb hby d6_15) rfl rfl) ?_
  show Ends p e below s _ _ _ T196 (mkF m 16 #[rv a, iv (0 : Int32), iv ix] [(.ref a), (.int (0 : Int32)), (.ref ai)])
  obtain ⟨T197, X197, e197, s197⟩ := getF X196 hx hZ hown (host := "") (Or.inl (hwi hw 11 rfl)) Via.refl e196 P0 (g := (mkF m 16 #[rv a, iv (0 : Int32), iv ix] [(.ref a), (.int (0 : Int32)), (.ref ai)])) rfl rfl (hb hby d6_16)
  refine go s197 ?_
  show Ends p e below s _ _ _ T197 (mkF m 19 #[rv a, iv (0 : Int32), iv ix] [(.ref ai), (.int (0 : Int32)), (.ref ai)])
  refine go (fun _ => XS.iloadN X197.here hx rfl (hb hby d6_19) rfl) ?_
  refine go (fun _ => XT.iconstV X197.here hx rfl (1 : Int32) (hb hby d6_20) (by decide)) ?_
  refine go (fun _ => XS.iadd X197.here hx rfl (hb hby d6_21) rfl) ?_
  refine go (fun _ => XS.aloadN X197.here hx rfl (hb hby d6_22) rfl rfl) ?_
  show Ends p e below s _ _ _ T197 (mkF m 23 #[rv a, iv (0 : Int32), iv ix] [(.ref a), (.int (1 : Int32)), (.ref ai), (.int (0 : Int32)), (.ref ai)])
  obtain ⟨T198, X198, e198, s198⟩ := getF X197 hx hZ hown (host := "") (Or.inl (hwi hw 28 rfl)) Via.refl e197 P2 (g := (mkF m 23 #[rv a, iv (0 : Int32), iv ix] [(.ref a), (.int (1 : Int32)), (.ref ai), (.int (0 : Int32)), (.ref ai)])) rfl rfl (hb hby d6_23)
  refine go s198 ?_
  show Ends p e below s _ _ _ T198 (mkF m 26 #[rv a, iv (0 : Int32), iv ix] [(.int (1 : Int32)), (.int (1 : Int32)), (.ref ai), (.int (0 : Int32)), (.ref ai)])
  refine go (fun _ => XS.iloadN X198.here hx rfl (hb hby d6_26) rfl) ?_
  refine go (fun _ => XS.isub X198.here hx rfl (hb hby d6_27) rfl) ?_
  show Ends p e below s _ _ _ T198 (mkF m 28 #[rv a, iv (0 : Int32), iv ix] [(.int (1 : Int32)), (.int (1 : Int32)), (.ref ai), (.int (0 : Int32)), (.ref ai)])
  obtain ⟨T199, h199, L199, X199, e199, N199, K199, V199, s199⟩ := cpA X198 hx hZ hown (hwi hw 58 rfl) (hwi hw 53 rfl) (hwi hw 51 rfl) (hwi hw 52 rfl) e198 P4 P4 (us := [(.int i0)]) (Or.inl ⟨rfl, rfl⟩) (sp := (0 : Int32)) (dp := (1 : Int32)) (nn := (1 : Int32)) (by decide) (by decide) (by decide) (by decide) (by decide) rfl (Nat.le_of_ble_eq_true rfl) N195a fi (g := (mkF m 28 #[rv a, iv (0 : Int32), iv ix] [(.int (1 : Int32)), (.int (1 : Int32)), (.ref ai), (.int (0 : Int32)), (.ref ai)])) rfl (by rw [hml]; rfl) rfl (hb hby d6_28) (by decide) (W := 0) (by show 2 * 0 + _ ≤ _; exact Nat.le_of_eq rfl) (by decide)
  have O200 : Ext Z.heap h199 := xk O0 K199 (allS fi all0)
  have V199l : Arv Z h199 ai ki .int (2 : Int32) [(.int i0), (.int i0)] (.int 0) := V199
  refine go s199 ?_
  show Ends p e below s _ _ _ T199 (mkF m 31 #[rv a, iv (0 : Int32), iv ix] [])
  refine go (fun _ => XS.aloadN X199.here hx rfl (hb hby d6_31) rfl rfl) ?_
  show Ends p e below s _ _ _ T199 (mkF m 32 #[rv a, iv (0 : Int32), iv ix] [(.ref a)])
  have F201 := (Fld.keep P1 K199 (ninS nai nin0))
  obtain ⟨T202, X202, e202, s202⟩ := getF X199 hx hZ hown (host := "") (Or.inl (hwi hw 15 rfl)) Via.refl e199 F201 (g := (mkF m 32 #[rv a, iv (0 : Int32), iv ix] [(.ref a)])) rfl rfl (hb hby d6_32)
  refine go s202 ?_
  show Ends p e below s _ _ _ T202 (mkF m 35 #[rv a, iv (0 : Int32), iv ix] [(.ref aw)])
  refine go (fun _ => XS.iloadN X202.here hx rfl (hb hby d6_35) rfl) ?_
  refine go (fun _ => XS.aloadN X202.here hx rfl (hb hby d6_36) rfl rfl) ?_
  show Ends p e below s _ _ _ T202 (mkF m 37 #[rv a, iv (0 : Int32), iv ix] [(.ref a), (.int (0 : Int32)), (.ref aw)])
  obtain ⟨T203, X203, e203, s203⟩ := getF X202 hx hZ hown (host := "") (Or.inl (hwi hw 15 rfl)) Via.refl e202 F201 (g := (mkF m 37 #[rv a, iv (0 : Int32), iv ix] [(.ref a), (.int (0 : Int32)), (.ref aw)])) rfl rfl (hb hby d6_37)
  refine go s203 ?_
  show Ends p e below s _ _ _ T203 (mkF m 40 #[rv a, iv (0 : Int32), iv ix] [(.ref aw), (.int (0 : Int32)), (.ref aw)])
  refine go (fun _ => XS.iloadN X203.here hx rfl (hb hby d6_40) rfl) ?_
  refine go (fun _ => XT.iconstV X203.here hx rfl (1 : Int32) (hb hby d6_41) (by decide)) ?_
  refine go (fun _ => XS.iadd X203.here hx rfl (hb hby d6_42) rfl) ?_
  refine go (fun _ => XS.aloadN X203.here hx rfl (hb hby d6_43) rfl rfl) ?_
  show Ends p e below s _ _ _ T203 (mkF m 44 #[rv a, iv (0 : Int32), iv ix] [(.ref a), (.int (1 : Int32)), (.ref aw), (.int (0 : Int32)), (.ref aw)])
  have F204 := (Fld.keep P2 K199 (ninS nai nin0))
  obtain ⟨T205, X205, e205, s205⟩ := getF X203 hx hZ hown (host := "") (Or.inl (hwi hw 28 rfl)) Via.refl e203 F204 (g := (mkF m 44 #[rv a, iv (0 : Int32), iv ix] [(.ref a), (.int (1 : Int32)), (.ref aw), (.int (0 : Int32)), (.ref aw)])) rfl rfl (hb hby d6_44)
  refine go s205 ?_
  show Ends p e below s _ _ _ T205 (mkF m 47 #[rv a, iv (0 : Int32), iv ix] [(.int (1 : Int32)), (.int (1 : Int32)), (.ref aw), (.int (0 : Int32)), (.ref aw)])
  refine go (fun _ => XS.iloadN X205.here hx rfl (hb hby d6_47) rfl) ?_
  refine go (fun _ => XS.isub X205.here hx rfl (hb hby d6_48) rfl) ?_
  show Ends p e below s _ _ _ T205 (mkF m 49 #[rv a, iv (0 : Int32), iv ix] [(.int (1 : Int32)), (.int (1 : Int32)), (.ref aw), (.int (0 : Int32)), (.ref aw)])
  have F207 := (Arv.keep P5 K199 (ninS (Ne.symm niw) nin0))
  obtain ⟨T206, h206, L206, X206, e206, N206, K206, V206, s206⟩ := cpA X205 hx hZ hown (hwi hw 58 rfl) (hwi hw 53 rfl) (hwi hw 51 rfl) (hwi hw 52 rfl) e205 F207 F207 (us := [(.long w0)]) (Or.inl ⟨rfl, rfl⟩) (sp := (0 : Int32)) (dp := (1 : Int32)) (nn := (1 : Int32)) (by decide) (by decide) (by decide) (by decide) (by decide) rfl (Nat.le_of_ble_eq_true rfl) N199 fw (g := (mkF m 49 #[rv a, iv (0 : Int32), iv ix] [(.int (1 : Int32)), (.int (1 : Int32)), (.ref aw), (.int (0 : Int32)), (.ref aw)])) rfl (by rw [hml]; rfl) rfl (hb hby d6_49) (by decide) (W := 0) (by show 2 * 0 + _ ≤ _; exact Nat.le_of_eq rfl) (by decide)
  have O208 : Ext Z.heap h206 := xk O200 K206 (allS fw all0)
  have V206l : Arv Z h206 aw kw .long (2 : Int32) [(.long w0), (.long w0)] (.long 0) := V206
  refine go s206 ?_
  show Ends p e below s _ _ _ T206 (mkF m 52 #[rv a, iv (0 : Int32), iv ix] [])
  refine go (fun _ => XS.aloadN X206.here hx rfl (hb hby d6_52) rfl rfl) ?_
  show Ends p e below s _ _ _ T206 (mkF m 53 #[rv a, iv (0 : Int32), iv ix] [(.ref a)])
  have F209 := (Fld.keep (Fld.keep P0 K199 (ninS nai nin0)) K206 (ninS naw nin0))
  obtain ⟨T210, X210, e210, s210⟩ := getF X206 hx hZ hown (host := "") (Or.inl (hwi hw 11 rfl)) Via.refl e206 F209 (g := (mkF m 53 #[rv a, iv (0 : Int32), iv ix] [(.ref a)])) rfl rfl (hb hby d6_53)
  refine go s210 ?_
  show Ends p e below s _ _ _ T210 (mkF m 56 #[rv a, iv (0 : Int32), iv ix] [(.ref ai)])
  refine go (fun _ => XS.iloadN X210.here hx rfl (hb hby d6_56) rfl) ?_
  refine go (fun _ => XS.iloadN X210.here hx rfl (hb hby d6_57) rfl) ?_
  show Ends p e below s _ _ _ T210 (mkF m 58 #[rv a, iv (0 : Int32), iv ix] [(.int ix), (.int (0 : Int32)), (.ref ai)])
  have F211 := (Arv.keep V199l K206 (ninS niw nin0))
  obtain ⟨cl212, A212, q212, S212, M212, H212, G212⟩ := id F211
  obtain ⟨T212, h212, X212, e212, W212, s212⟩ := stI X210 hx hZ e210 A212 (j := (0 : Int32)) (inb_of S212 (by decide)) (g := (mkF m 58 #[rv a, iv (0 : Int32), iv ix] [(.int ix), (.int (0 : Int32)), (.ref ai)])) rfl rfl (hb hby d6_58)
  have N212 := Fr.snoc X212 N206 fi
  have O213 : Ext Z.heap h212 := xw O208 W212 fi
  have V212 : Arv Z h212 ai ki .int (2 : Int32) [(.int ix), (.int i0)] (.int 0) := Arv.set A212 q212 S212 M212 H212 G212 rfl W212 0 (by decide) (Nat.le_of_ble_eq_true rfl)
  refine go s212 ?_
  show Ends p e below s _ _ _ T212 (mkF m 59 #[rv a, iv (0 : Int32), iv ix] [])
  refine go (fun _ => XS.aloadN X212.here hx rfl (hb hby d6_59) rfl rfl) ?_
  show Ends p e below s _ _ _ T212 (mkF m 60 #[rv a, iv (0 : Int32), iv ix] [(.ref a)])
  have F214 := (Fld.other W212 (Fld.keep F201 K206 (ninS naw nin0)) (Or.inl nai))
  obtain ⟨T215, X215, e215, s215⟩ := getF X212 hx hZ hown (host := "") (Or.inl (hwi hw 15 rfl)) Via.refl e212 F214 (g := (mkF m 60 #[rv a, iv (0 : Int32), iv ix] [(.ref a)])) rfl rfl (hb hby d6_60)
  refine go s215 ?_
  show Ends p e below s _ _ _ T215 (mkF m 63 #[rv a, iv (0 : Int32), iv ix] [(.ref aw)])
  refine go (fun _ => XS.iloadN X215.here hx rfl (hb hby d6_63) rfl) ?_
  refine go (fun _ => XT.lconstV X215.here hx rfl (0 : Int64) (hb hby d6_64) (by decide)) ?_
  show Ends p e below s _ _ _ T215 (mkF m 65 #[rv a, iv (0 : Int32), iv ix] [(.long (0 : Int64)), (.int (0 : Int32)), (.ref aw)])
  have F216 := (Arv.other V206l W212 (Ne.symm niw))
  obtain ⟨cl217, A217, q217, S217, M217, H217, G217⟩ := id F216
  obtain ⟨T217, h217, X217, e217, W217, s217⟩ := stJ X215 hx hZ e215 A217 (j := (0 : Int32)) (inb_of S217 (by decide)) (g := (mkF m 65 #[rv a, iv (0 : Int32), iv ix] [(.long (0 : Int64)), (.int (0 : Int32)), (.ref aw)])) rfl rfl (hb hby d6_65)
  have N217 := Fr.snoc X217 N212 fw
  have O218 : Ext Z.heap h217 := xw O213 W217 fw
  have V217 : Arv Z h217 aw kw .long (2 : Int32) [(.long (0 : Int64)), (.long w0)] (.long 0) := Arv.set A217 q217 S217 M217 H217 G217 rfl W217 0 (by decide) (Nat.le_of_ble_eq_true rfl)
  refine go s217 ?_
  show Ends p e below s _ _ _ T217 (mkF m 66 #[rv a, iv (0 : Int32), iv ix] [])
  refine go (fun _ => XS.aloadN X217.here hx rfl (hb hby d6_66) rfl rfl) ?_
  refine go (fun _ => XS.dup X217.here hx rfl (hb hby d6_67) rfl rfl) ?_
  show Ends p e below s _ _ _ T217 (mkF m 68 #[rv a, iv (0 : Int32), iv ix] [(.ref a), (.ref a)])
  have F219 := (Fld.other W217 (Fld.other W212 (Fld.keep F204 K206 (ninS naw nin0)) (Or.inl nai)) (Or.inl naw))
  obtain ⟨T220, X220, e220, s220⟩ := getF X217 hx hZ hown (host := "") (Or.inl (hwi hw 28 rfl)) Via.refl e217 F219 (g := (mkF m 68 #[rv a, iv (0 : Int32), iv ix] [(.ref a), (.ref a)])) rfl rfl (hb hby d6_68)
  refine go s220 ?_
  show Ends p e below s _ _ _ T220 (mkF m 71 #[rv a, iv (0 : Int32), iv ix] [(.int (1 : Int32)), (.ref a)])
  refine go (fun _ => XT.iconstV X220.here hx rfl (1 : Int32) (hb hby d6_71) (by decide)) ?_
  refine go (fun _ => XS.iadd X220.here hx rfl (hb hby d6_72) rfl) ?_
  show Ends p e below s _ _ _ T220 (mkF m 73 #[rv a, iv (0 : Int32), iv ix] [(.int (2 : Int32)), (.ref a)])
  have F221 := (Exa.wr W217 (Exa.wr W212 (Exa.keep (Exa.keep E0 K199) K206)))
  obtain ⟨T222, h222, X222, e222, W222, s222⟩ := putF X220 hx hZ hown (host := "") (Or.inl (hwi hw 28 rfl)) Via.refl e220 F219 F221 (Or.inl (hwi hw 29 rfl)) (hwi hw 1 rfl) (ty := .int) (by decide) rfl rfl (g := (mkF m 73 #[rv a, iv (0 : Int32), iv ix] [(.int (2 : Int32)), (.ref a)])) rfl rfl (hb hby d6_73)
  have N222 := Fr.snoc X222 N217 f0
  have O223 : Ext Z.heap h222 := xw O218 W222 f0
  refine go s222 ?_
  show Ends p e below s _ _ _ T222 (mkF m 76 #[rv a, iv (0 : Int32), iv ix] [])
  have F224 := (Fld.other W222 (Fld.other W217 (Fld.other W212 F209 (Or.inl nai)) (Or.inl naw)) (Or.inr (slot_ne (a0 := a0) (Or.inl (hwi hw 12 rfl)) (Or.inl (hwi hw 29 rfl)) (by decide) (t := (.array .int)) (t' := .int) (by decide) (by decide))))
  have F225 := (Fld.other W222 (Fld.other W217 F214 (Or.inl naw)) (Or.inr (slot_ne (a0 := a0) (Or.inl (hwi hw 16 rfl)) (Or.inl (hwi hw 29 rfl)) (by decide) (t := (.array .long)) (t' := .int) (by decide) (by decide))))
  have F226 := (Fld.same W222 F219)
  have F227 := (Fld.other W222 (Fld.other W217 (Fld.other W212 (Fld.keep (Fld.keep P3 K199 (ninS nai nin0)) K206 (ninS naw nin0)) (Or.inl nai)) (Or.inl naw)) (Or.inr (slot_ne (a0 := a0) (Or.inl (hwi hw 27 rfl)) (Or.inl (hwi hw 29 rfl)) (by decide) (t := .int) (t' := .int) (by decide) (by decide))))
  have F228 := (Arv.other (Arv.other V212 W217 niw) W222 (Ne.symm nai))
  have F229 := (Arv.other V217 W222 (Ne.symm naw))
  have K230 : Keep h0 h222 [a, ai, aw] := (Keep.wr (Keep.wr (Keep.wr (Keep.trans (Keep.trans (Keep.refl _ _) K199 (allS (Or.inl (List.mem_of_getElem? (i := 1) rfl)) all0)) K206 (allS (Or.inl (List.mem_of_getElem? (i := 2) rfl)) all0)) W212 (Or.inl (List.mem_of_getElem? (i := 1) rfl))) W217 (Or.inl (List.mem_of_getElem? (i := 2) rfl))) W222 (Or.inl (List.mem_of_getElem? (i := 0) rfl)))
  exact endV X222 hx hlk hret (hb hby d6_76) e222 ⟨rfl, N222, ⟨K230, F224, F225, F226, F227, F228, F229⟩⟩ (by decide) (by decide)
set_option maxRecDepth 65536 in
set_option maxHeartbeats 40000000 in
theorem rm_ins1_1 {l : Launch} {Z : State} {a0 : Array Value} (hw : ∀ d ∈ tables_1, d.before a0 Z = true) (a ai aw : Addr) (ki kw : ClassId) (i0 : Int32) (w0 : Int64) (ix : Int32) (h0 : Heap) (O0 : Ext Z.heap h0) (f0 : Z.heap.size ≤ a) (E0 : Exa Z h0 a "com/example/libtbox/libtbox/core/SparseBitSet") (P0 : Fld Z h0 a "com/example/libtbox/libtbox/core/SparseBitSet" "indices" "[I" (.ref ai)) (P1 : Fld Z h0 a "com/example/libtbox/libtbox/core/SparseBitSet" "words" "[J" (.ref aw)) (P2 : Fld Z h0 a "com/example/libtbox/libtbox/core/SparseBitSet" "count" "I" (.int (1 : Int32))) (P3 : Fld Z h0 a "com/example/libtbox/libtbox/core/SparseBitSet" "lastFound" "I" (.int (0 : Int32))) (P4 : Arv Z h0 ai ki .int (2 : Int32) [(.int i0), (.int (0 : Int32))] (.int 0)) (P5 : Arv Z h0 aw kw .long (2 : Int32) [(.long w0), (.long (0 : Int64))] (.long 0)) (fi : Z.heap.size ≤ ai) (fw : Z.heap.size ≤ aw) (nai : a ≠ ai) (naw : a ≠ aw) (niw : ai ≠ aw)  :
    Con l (⟨"com/example/libtbox/libtbox/core/SparseBitSet", "insert", "(II)V"⟩ : MethodName) prog_51_method_19_code 3 none ({ frames := 1, cells := 0, slots := 0, locals := 18 } : Room) Z #[(.ref a), (.int (1 : Int32)), (.int ix)] h0 (fun v h L => v = none ∧ Fr Z.heap.size L ∧ Keep h0 h [a, ai, aw] ∧ Fld Z h a "com/example/libtbox/libtbox/core/SparseBitSet" "indices" "[I" (.ref ai) ∧ Fld Z h a "com/example/libtbox/libtbox/core/SparseBitSet" "words" "[J" (.ref aw) ∧ Fld Z h a "com/example/libtbox/libtbox/core/SparseBitSet" "count" "I" (.int (2 : Int32)) ∧ Fld Z h a "com/example/libtbox/libtbox/core/SparseBitSet" "lastFound" "I" (.int (0 : Int32)) ∧ Arv Z h ai ki .int (2 : Int32) [(.int i0), (.int ix)] (.int 0) ∧ Arv Z h aw kw .long (2 : Int32) [(.long w0), (.long (0 : Int64))] (.long 0)) := by
  refine Con.of (plainFor_of_name pn_0) (Ls := #[rv a, iv (1 : Int32), iv ix]) (fun m => efOf rfl) ?_
  intro p e s m below meth c T0 X0 hx hZ hby hml hown hnm hret hlk e0
  refine go (fun _ => XS.aloadN X0.here hx rfl (hb hby d6_0) rfl rfl) ?_
  refine go (fun _ => XS.aloadN X0.here hx rfl (hb hby d6_1) rfl rfl) ?_
  show Ends p e below s _ _ _ T0 (mkF m 2 #[rv a, iv (1 : Int32), iv ix] [(.ref a), (.ref a)])
  obtain ⟨T231, X231, e231, s231⟩ := getF X0 hx hZ hown (host := "") (Or.inl (hwi hw 28 rfl)) Via.refl e0 P2 (g := (mkF m 2 #[rv a, iv (1 : Int32), iv ix] [(.ref a), (.ref a)])) rfl rfl (hb hby d6_2)
  refine go s231 ?_
  show Ends p e below s _ _ _ T231 (mkF m 5 #[rv a, iv (1 : Int32), iv ix] [(.int (1 : Int32)), (.ref a)])
  refine go (fun _ => XT.iconstV X231.here hx rfl (1 : Int32) (hb hby d6_5) (by decide)) ?_
  refine go (fun _ => XS.iadd X231.here hx rfl (hb hby d6_6) rfl) ?_
  show Ends p e below s _ _ _ T231 (mkF m 7 #[rv a, iv (1 : Int32), iv ix] [(.int (2 : Int32)), (.ref a)])
  refine cPriv X231 hx hZ hown (by rw [hml]; rfl) e231 (hwi hw 34 rfl) (hwi hw 35 rfl) (hwi hw 36 rfl) (hwi hw 1 rfl) (hwi hw 2 rfl) (hwi hw 37 rfl) a E0 [(.int (2 : Int32))] [] rfl (rm_grow1 hw a ai aw ki kw i0 w0 _ O0 f0 E0 P0 P1 P2 P3 P4 P5 fi fw nai naw niw) (hb hby d6_7) rfl (lenOf pd_5 rfl) (by decide) (by decide) (Nat.le_of_ble_eq_true rfl) (by decide) (by decide) ?_
  rintro v232 T232 h232 L232 X232 e232 ⟨rfl, N232, rfl⟩
  have N232a := Fr.app (Fr.nil _) N232
  show Ends p e below s _ _ _ T232 (mkF m 10 #[rv a, iv (1 : Int32), iv ix] [])
  refine go (fun _ => XS.aloadN X232.here hx rfl (hb hby d6_10) rfl rfl) ?_
  show Ends p e below s _ _ _ T232 (mkF m 11 #[rv a, iv (1 : Int32), iv ix] [(.ref a)])
  obtain ⟨T233, X233, e233, s233⟩ := getF X232 hx hZ hown (host := "") (Or.inl (hwi hw 11 rfl)) Via.refl e232 P0 (g := (mkF m 11 #[rv a, iv (1 : Int32), iv ix] [(.ref a)])) rfl rfl (hb hby d6_11)
  refine go s233 ?_
  show Ends p e below s _ _ _ T233 (mkF m 14 #[rv a, iv (1 : Int32), iv ix] [(.ref ai)])
  refine go (fun _ => XS.iloadN X233.here hx rfl (hb hby d6_14) rfl) ?_
  refine go (fun _ => XS.aloadN X233.here hx rfl (hb hby d6_15) rfl rfl) ?_
  show Ends p e below s _ _ _ T233 (mkF m 16 #[rv a, iv (1 : Int32), iv ix] [(.ref a), (.int (1 : Int32)), (.ref ai)])
  obtain ⟨T234, X234, e234, s234⟩ := getF X233 hx hZ hown (host := "") (Or.inl (hwi hw 11 rfl)) Via.refl e233 P0 (g := (mkF m 16 #[rv a, iv (1 : Int32), iv ix] [(.ref a), (.int (1 : Int32)), (.ref ai)])) rfl rfl (hb hby d6_16)
  refine go s234 ?_
  show Ends p e below s _ _ _ T234 (mkF m 19 #[rv a, iv (1 : Int32), iv ix] [(.ref ai), (.int (1 : Int32)), (.ref ai)])
  refine go (fun _ => XS.iloadN X234.here hx rfl (hb hby d6_19) rfl) ?_
  refine go (fun _ => XT.iconstV X234.here hx rfl (1 : Int32) (hb hby d6_20) (by decide)) ?_
  refine go (fun _ => XS.iadd X234.here hx rfl (hb hby d6_21) rfl) ?_
  refine go (fun _ => XS.aloadN X234.here hx rfl (hb hby d6_22) rfl rfl) ?_
  show Ends p e below s _ _ _ T234 (mkF m 23 #[rv a, iv (1 : Int32), iv ix] [(.ref a), (.int (2 : Int32)), (.ref ai), (.int (1 : Int32)), (.ref ai)])
  obtain ⟨T235, X235, e235, s235⟩ := getF X234 hx hZ hown (host := "") (Or.inl (hwi hw 28 rfl)) Via.refl e234 P2 (g := (mkF m 23 #[rv a, iv (1 : Int32), iv ix] [(.ref a), (.int (2 : Int32)), (.ref ai), (.int (1 : Int32)), (.ref ai)])) rfl rfl (hb hby d6_23)
  refine go s235 ?_
  show Ends p e below s _ _ _ T235 (mkF m 26 #[rv a, iv (1 : Int32), iv ix] [(.int (1 : Int32)), (.int (2 : Int32)), (.ref ai), (.int (1 : Int32)), (.ref ai)])
  refine go (fun _ => XS.iloadN X235.here hx rfl (hb hby d6_26) rfl) ?_
  refine go (fun _ => XS.isub X235.here hx rfl (hb hby d6_27) rfl) ?_
  show Ends p e below s _ _ _ T235 (mkF m 28 #[rv a, iv (1 : Int32), iv ix] [(.int (0 : Int32)), (.int (2 : Int32)), (.ref ai), (.int (1 : Int32)), (.ref ai)])
  obtain ⟨T236, h236, L236, X236, e236, N236, K236, V236, s236⟩ := cpA X235 hx hZ hown (hwi hw 58 rfl) (hwi hw 53 rfl) (hwi hw 51 rfl) (hwi hw 52 rfl) e235 P4 P4 (us := []) (Or.inl ⟨rfl, rfl⟩) (sp := (1 : Int32)) (dp := (2 : Int32)) (nn := (0 : Int32)) (by decide) (by decide) (by decide) (by decide) (by decide) rfl (Nat.le_of_ble_eq_true rfl) N232a fi (g := (mkF m 28 #[rv a, iv (1 : Int32), iv ix] [(.int (0 : Int32)), (.int (2 : Int32)), (.ref ai), (.int (1 : Int32)), (.ref ai)])) rfl (by rw [hml]; rfl) rfl (hb hby d6_28) (by decide) (W := 0) (by show 2 * 0 + _ ≤ _; exact Nat.le_of_eq rfl) (by decide)
  have O237 : Ext Z.heap h236 := xk O0 K236 (allS fi all0)
  have V236l : Arv Z h236 ai ki .int (2 : Int32) [(.int i0), (.int (0 : Int32))] (.int 0) := V236
  refine go s236 ?_
  show Ends p e below s _ _ _ T236 (mkF m 31 #[rv a, iv (1 : Int32), iv ix] [])
  refine go (fun _ => XS.aloadN X236.here hx rfl (hb hby d6_31) rfl rfl) ?_
  show Ends p e below s _ _ _ T236 (mkF m 32 #[rv a, iv (1 : Int32), iv ix] [(.ref a)])
  have F238 := (Fld.keep P1 K236 (ninS nai nin0))
  obtain ⟨T239, X239, e239, s239⟩ := getF X236 hx hZ hown (host := "") (Or.inl (hwi hw 15 rfl)) Via.refl e236 F238 (g := (mkF m 32 #[rv a, iv (1 : Int32), iv ix] [(.ref a)])) rfl rfl (hb hby d6_32)
  refine go s239 ?_
  show Ends p e below s _ _ _ T239 (mkF m 35 #[rv a, iv (1 : Int32), iv ix] [(.ref aw)])
  refine go (fun _ => XS.iloadN X239.here hx rfl (hb hby d6_35) rfl) ?_
  refine go (fun _ => XS.aloadN X239.here hx rfl (hb hby d6_36) rfl rfl) ?_
  show Ends p e below s _ _ _ T239 (mkF m 37 #[rv a, iv (1 : Int32), iv ix] [(.ref a), (.int (1 : Int32)), (.ref aw)])
  obtain ⟨T240, X240, e240, s240⟩ := getF X239 hx hZ hown (host := "") (Or.inl (hwi hw 15 rfl)) Via.refl e239 F238 (g := (mkF m 37 #[rv a, iv (1 : Int32), iv ix] [(.ref a), (.int (1 : Int32)), (.ref aw)])) rfl rfl (hb hby d6_37)
  refine go s240 ?_
  show Ends p e below s _ _ _ T240 (mkF m 40 #[rv a, iv (1 : Int32), iv ix] [(.ref aw), (.int (1 : Int32)), (.ref aw)])
  refine go (fun _ => XS.iloadN X240.here hx rfl (hb hby d6_40) rfl) ?_
  refine go (fun _ => XT.iconstV X240.here hx rfl (1 : Int32) (hb hby d6_41) (by decide)) ?_
  refine go (fun _ => XS.iadd X240.here hx rfl (hb hby d6_42) rfl) ?_
  refine go (fun _ => XS.aloadN X240.here hx rfl (hb hby d6_43) rfl rfl) ?_
  show Ends p e below s _ _ _ T240 (mkF m 44 #[rv a, iv (1 : Int32), iv ix] [(.ref a), (.int (2 : Int32)), (.ref aw), (.int (1 : Int32)), (.ref aw)])
  have F241 := (Fld.keep P2 K236 (ninS nai nin0))
  obtain ⟨T242, X242, e242, s242⟩ := getF X240 hx hZ hown (host := "") (Or.inl (hwi hw 28 rfl)) Via.refl e240 F241 (g := (mkF m 44 #[rv a, iv (1 : Int32), iv ix] [(.ref a), (.int (2 : Int32)), (.ref aw), (.int (1 : Int32)), (.ref aw)])) rfl rfl (hb hby d6_44)
  refine go s242 ?_
  show Ends p e below s _ _ _ T242 (mkF m 47 #[rv a, iv (1 : Int32), iv ix] [(.int (1 : Int32)), (.int (2 : Int32)), (.ref aw), (.int (1 : Int32)), (.ref aw)])
  refine go (fun _ => XS.iloadN X242.here hx rfl (hb hby d6_47) rfl) ?_
  refine go (fun _ => XS.isub X242.here hx rfl (hb hby d6_48) rfl) ?_
  show Ends p e below s _ _ _ T242 (mkF m 49 #[rv a, iv (1 : Int32), iv ix] [(.int (0 : Int32)), (.int (2 : Int32)), (.ref aw), (.int (1 : Int32)), (.ref aw)])
  have F244 := (Arv.keep P5 K236 (ninS (Ne.symm niw) nin0))
  obtain ⟨T243, h243, L243, X243, e243, N243, K243, V243, s243⟩ := cpA X242 hx hZ hown (hwi hw 58 rfl) (hwi hw 53 rfl) (hwi hw 51 rfl) (hwi hw 52 rfl) e242 F244 F244 (us := []) (Or.inl ⟨rfl, rfl⟩) (sp := (1 : Int32)) (dp := (2 : Int32)) (nn := (0 : Int32)) (by decide) (by decide) (by decide) (by decide) (by decide) rfl (Nat.le_of_ble_eq_true rfl) N236 fw (g := (mkF m 49 #[rv a, iv (1 : Int32), iv ix] [(.int (0 : Int32)), (.int (2 : Int32)), (.ref aw), (.int (1 : Int32)), (.ref aw)])) rfl (by rw [hml]; rfl) rfl (hb hby d6_49) (by decide) (W := 0) (by show 2 * 0 + _ ≤ _; exact Nat.le_of_eq rfl) (by decide)
  have O245 : Ext Z.heap h243 := xk O237 K243 (allS fw all0)
  have V243l : Arv Z h243 aw kw .long (2 : Int32) [(.long w0), (.long (0 : Int64))] (.long 0) := V243
  refine go s243 ?_
  show Ends p e below s _ _ _ T243 (mkF m 52 #[rv a, iv (1 : Int32), iv ix] [])
  refine go (fun _ => XS.aloadN X243.here hx rfl (hb hby d6_52) rfl rfl) ?_
  show Ends p e below s _ _ _ T243 (mkF m 53 #[rv a, iv (1 : Int32), iv ix] [(.ref a)])
  have F246 := (Fld.keep (Fld.keep P0 K236 (ninS nai nin0)) K243 (ninS naw nin0))
  obtain ⟨T247, X247, e247, s247⟩ := getF X243 hx hZ hown (host := "") (Or.inl (hwi hw 11 rfl)) Via.refl e243 F246 (g := (mkF m 53 #[rv a, iv (1 : Int32), iv ix] [(.ref a)])) rfl rfl (hb hby d6_53)
  refine go s247 ?_
  show Ends p e below s _ _ _ T247 (mkF m 56 #[rv a, iv (1 : Int32), iv ix] [(.ref ai)])
  refine go (fun _ => XS.iloadN X247.here hx rfl (hb hby d6_56) rfl) ?_
  refine go (fun _ => XS.iloadN X247.here hx rfl (hb hby d6_57) rfl) ?_
  show Ends p e below s _ _ _ T247 (mkF m 58 #[rv a, iv (1 : Int32), iv ix] [(.int ix), (.int (1 : Int32)), (.ref ai)])
  have F248 := (Arv.keep V236l K243 (ninS niw nin0))
  obtain ⟨cl249, A249, q249, S249, M249, H249, G249⟩ := id F248
  obtain ⟨T249, h249, X249, e249, W249, s249⟩ := stI X247 hx hZ e247 A249 (j := (1 : Int32)) (inb_of S249 (by decide)) (g := (mkF m 58 #[rv a, iv (1 : Int32), iv ix] [(.int ix), (.int (1 : Int32)), (.ref ai)])) rfl rfl (hb hby d6_58)
  have N249 := Fr.snoc X249 N243 fi
  have O250 : Ext Z.heap h249 := xw O245 W249 fi
  have V249 : Arv Z h249 ai ki .int (2 : Int32) [(.int i0), (.int ix)] (.int 0) := Arv.set A249 q249 S249 M249 H249 G249 rfl W249 1 (by decide) (Nat.le_of_ble_eq_true rfl)
  refine go s249 ?_
  show Ends p e below s _ _ _ T249 (mkF m 59 #[rv a, iv (1 : Int32), iv ix] [])
  refine go (fun _ => XS.aloadN X249.here hx rfl (hb hby d6_59) rfl rfl) ?_
  show Ends p e below s _ _ _ T249 (mkF m 60 #[rv a, iv (1 : Int32), iv ix] [(.ref a)])
  have F251 := (Fld.other W249 (Fld.keep F238 K243 (ninS naw nin0)) (Or.inl nai))
  obtain ⟨T252, X252, e252, s252⟩ := getF X249 hx hZ hown (host := "") (Or.inl (hwi hw 15 rfl)) Via.refl e249 F251 (g := (mkF m 60 #[rv a, iv (1 : Int32), iv ix] [(.ref a)])) rfl rfl (hb hby d6_60)
  refine go s252 ?_
  show Ends p e below s _ _ _ T252 (mkF m 63 #[rv a, iv (1 : Int32), iv ix] [(.ref aw)])
  refine go (fun _ => XS.iloadN X252.here hx rfl (hb hby d6_63) rfl) ?_
  refine go (fun _ => XT.lconstV X252.here hx rfl (0 : Int64) (hb hby d6_64) (by decide)) ?_
  show Ends p e below s _ _ _ T252 (mkF m 65 #[rv a, iv (1 : Int32), iv ix] [(.long (0 : Int64)), (.int (1 : Int32)), (.ref aw)])
  have F253 := (Arv.other V243l W249 (Ne.symm niw))
  obtain ⟨cl254, A254, q254, S254, M254, H254, G254⟩ := id F253
  obtain ⟨T254, h254, X254, e254, W254, s254⟩ := stJ X252 hx hZ e252 A254 (j := (1 : Int32)) (inb_of S254 (by decide)) (g := (mkF m 65 #[rv a, iv (1 : Int32), iv ix] [(.long (0 : Int64)), (.int (1 : Int32)), (.ref aw)])) rfl rfl (hb hby d6_65)
  have N254 := Fr.snoc X254 N249 fw
  have O255 : Ext Z.heap h254 := xw O250 W254 fw
  have V254 : Arv Z h254 aw kw .long (2 : Int32) [(.long w0), (.long (0 : Int64))] (.long 0) := Arv.set A254 q254 S254 M254 H254 G254 rfl W254 1 (by decide) (Nat.le_of_ble_eq_true rfl)
  refine go s254 ?_
  show Ends p e below s _ _ _ T254 (mkF m 66 #[rv a, iv (1 : Int32), iv ix] [])
  refine go (fun _ => XS.aloadN X254.here hx rfl (hb hby d6_66) rfl rfl) ?_
  refine go (fun _ => XS.dup X254.here hx rfl (hb hby d6_67) rfl rfl) ?_
  show Ends p e below s _ _ _ T254 (mkF m 68 #[rv a, iv (1 : Int32), iv ix] [(.ref a), (.ref a)])
  have F256 := (Fld.other W254 (Fld.other W249 (Fld.keep F241 K243 (ninS naw nin0)) (Or.inl nai)) (Or.inl naw))
  obtain ⟨T257, X257, e257, s257⟩ := getF X254 hx hZ hown (host := "") (Or.inl (hwi hw 28 rfl)) Via.refl e254 F256 (g := (mkF m 68 #[rv a, iv (1 : Int32), iv ix] [(.ref a), (.ref a)])) rfl rfl (hb hby d6_68)
  refine go s257 ?_
  show Ends p e below s _ _ _ T257 (mkF m 71 #[rv a, iv (1 : Int32), iv ix] [(.int (1 : Int32)), (.ref a)])
  refine go (fun _ => XT.iconstV X257.here hx rfl (1 : Int32) (hb hby d6_71) (by decide)) ?_
  refine go (fun _ => XS.iadd X257.here hx rfl (hb hby d6_72) rfl) ?_
  show Ends p e below s _ _ _ T257 (mkF m 73 #[rv a, iv (1 : Int32), iv ix] [(.int (2 : Int32)), (.ref a)])
  have F258 := (Exa.wr W254 (Exa.wr W249 (Exa.keep (Exa.keep E0 K236) K243)))
  obtain ⟨T259, h259, X259, e259, W259, s259⟩ := putF X257 hx hZ hown (host := "") (Or.inl (hwi hw 28 rfl)) Via.refl e257 F256 F258 (Or.inl (hwi hw 29 rfl)) (hwi hw 1 rfl) (ty := .int) (by decide) rfl rfl (g := (mkF m 73 #[rv a, iv (1 : Int32), iv ix] [(.int (2 : Int32)), (.ref a)])) rfl rfl (hb hby d6_73)
  have N259 := Fr.snoc X259 N254 f0
  have O260 : Ext Z.heap h259 := xw O255 W259 f0
  refine go s259 ?_
  show Ends p e below s _ _ _ T259 (mkF m 76 #[rv a, iv (1 : Int32), iv ix] [])
  have F261 := (Fld.other W259 (Fld.other W254 (Fld.other W249 F246 (Or.inl nai)) (Or.inl naw)) (Or.inr (slot_ne (a0 := a0) (Or.inl (hwi hw 12 rfl)) (Or.inl (hwi hw 29 rfl)) (by decide) (t := (.array .int)) (t' := .int) (by decide) (by decide))))
  have F262 := (Fld.other W259 (Fld.other W254 F251 (Or.inl naw)) (Or.inr (slot_ne (a0 := a0) (Or.inl (hwi hw 16 rfl)) (Or.inl (hwi hw 29 rfl)) (by decide) (t := (.array .long)) (t' := .int) (by decide) (by decide))))
  have F263 := (Fld.same W259 F256)
  have F264 := (Fld.other W259 (Fld.other W254 (Fld.other W249 (Fld.keep (Fld.keep P3 K236 (ninS nai nin0)) K243 (ninS naw nin0)) (Or.inl nai)) (Or.inl naw)) (Or.inr (slot_ne (a0 := a0) (Or.inl (hwi hw 27 rfl)) (Or.inl (hwi hw 29 rfl)) (by decide) (t := .int) (t' := .int) (by decide) (by decide))))
  have F265 := (Arv.other (Arv.other V249 W254 niw) W259 (Ne.symm nai))
  have F266 := (Arv.other V254 W259 (Ne.symm naw))
  have K267 : Keep h0 h259 [a, ai, aw] := (Keep.wr (Keep.wr (Keep.wr (Keep.trans (Keep.trans (Keep.refl _ _) K236 (allS (Or.inl (List.mem_of_getElem? (i := 1) rfl)) all0)) K243 (allS (Or.inl (List.mem_of_getElem? (i := 2) rfl)) all0)) W249 (Or.inl (List.mem_of_getElem? (i := 1) rfl))) W254 (Or.inl (List.mem_of_getElem? (i := 2) rfl))) W259 (Or.inl (List.mem_of_getElem? (i := 0) rfl)))
  exact endV X259 hx hlk hret (hb hby d6_76) e259 ⟨rfl, N259, ⟨K267, F261, F262, F263, F264, F265, F266⟩⟩ (by decide) (by decide)
set_option maxRecDepth 65536 in
set_option maxHeartbeats 40000000 in
theorem rm_ins2_0 {l : Launch} {Z : State} {a0 : Array Value} (hw : ∀ d ∈ tables_1, d.before a0 Z = true) (a ai aw : Addr) (ki kw : ClassId) (i0 i1 : Int32) (w0 w1 : Int64) (ix : Int32) (h0 : Heap) (O0 : Ext Z.heap h0) (f0 : Z.heap.size ≤ a) (E0 : Exa Z h0 a "com/example/libtbox/libtbox/core/SparseBitSet") (P0 : Fld Z h0 a "com/example/libtbox/libtbox/core/SparseBitSet" "indices" "[I" (.ref ai)) (P1 : Fld Z h0 a "com/example/libtbox/libtbox/core/SparseBitSet" "words" "[J" (.ref aw)) (P2 : Fld Z h0 a "com/example/libtbox/libtbox/core/SparseBitSet" "count" "I" (.int (2 : Int32))) (P3 : Fld Z h0 a "com/example/libtbox/libtbox/core/SparseBitSet" "lastFound" "I" (.int (0 : Int32))) (P4 : Arv Z h0 ai ki .int (2 : Int32) [(.int i0), (.int i1)] (.int 0)) (P5 : Arv Z h0 aw kw .long (2 : Int32) [(.long w0), (.long w1)] (.long 0)) (fi : Z.heap.size ≤ ai) (fw : Z.heap.size ≤ aw) (nai : a ≠ ai) (naw : a ≠ aw) (niw : ai ≠ aw)  :
    Con l (⟨"com/example/libtbox/libtbox/core/SparseBitSet", "insert", "(II)V"⟩ : MethodName) prog_51_method_19_code 3 none ({ frames := 3, cells := 2, slots := 8, locals := 47 } : Room) Z #[(.ref a), (.int (0 : Int32)), (.int ix)] h0 (fun v h L => v = none ∧ Fr Z.heap.size L ∧ ∃ (bi bw : Addr) (k1 k2 : ClassId), Keep h0 h [a] ∧ h0.size ≤ bi ∧ h0.size ≤ bw ∧ bi ≠ bw ∧ Fld Z h a "com/example/libtbox/libtbox/core/SparseBitSet" "indices" "[I" (.ref bi) ∧ Fld Z h a "com/example/libtbox/libtbox/core/SparseBitSet" "words" "[J" (.ref bw) ∧ Fld Z h a "com/example/libtbox/libtbox/core/SparseBitSet" "count" "I" (.int (3 : Int32)) ∧ Fld Z h a "com/example/libtbox/libtbox/core/SparseBitSet" "lastFound" "I" (.int (0 : Int32)) ∧ Arv Z h bi k1 .int (4 : Int32) [(.int ix), (.int i0), (.int i1), (.int (0 : Int32))] (.int 0) ∧ Arv Z h bw k2 .long (4 : Int32) [(.long (0 : Int64)), (.long w0), (.long w1), (.long (0 : Int64))] (.long 0)) := by
  refine Con.of (plainFor_of_name pn_0) (Ls := #[rv a, iv (0 : Int32), iv ix]) (fun m => efOf rfl) ?_
  intro p e s m below meth c T0 X0 hx hZ hby hml hown hnm hret hlk e0
  refine go (fun _ => XS.aloadN X0.here hx rfl (hb hby d6_0) rfl rfl) ?_
  refine go (fun _ => XS.aloadN X0.here hx rfl (hb hby d6_1) rfl rfl) ?_
  show Ends p e below s _ _ _ T0 (mkF m 2 #[rv a, iv (0 : Int32), iv ix] [(.ref a), (.ref a)])
  obtain ⟨T268, X268, e268, s268⟩ := getF X0 hx hZ hown (host := "") (Or.inl (hwi hw 28 rfl)) Via.refl e0 P2 (g := (mkF m 2 #[rv a, iv (0 : Int32), iv ix] [(.ref a), (.ref a)])) rfl rfl (hb hby d6_2)
  refine go s268 ?_
  show Ends p e below s _ _ _ T268 (mkF m 5 #[rv a, iv (0 : Int32), iv ix] [(.int (2 : Int32)), (.ref a)])
  refine go (fun _ => XT.iconstV X268.here hx rfl (1 : Int32) (hb hby d6_5) (by decide)) ?_
  refine go (fun _ => XS.iadd X268.here hx rfl (hb hby d6_6) rfl) ?_
  show Ends p e below s _ _ _ T268 (mkF m 7 #[rv a, iv (0 : Int32), iv ix] [(.int (3 : Int32)), (.ref a)])
  refine cPriv X268 hx hZ hown (by rw [hml]; rfl) e268 (hwi hw 34 rfl) (hwi hw 35 rfl) (hwi hw 36 rfl) (hwi hw 1 rfl) (hwi hw 2 rfl) (hwi hw 37 rfl) a E0 [(.int (3 : Int32))] [] rfl (rm_grow2 hw a ai aw ki kw i0 i1 w0 w1 _ O0 f0 E0 P0 P1 P2 P3 P4 P5 fi fw nai naw niw) (hb hby d6_7) rfl (lenOf pd_5 rfl) (by decide) (by decide) (Nat.le_of_ble_eq_true rfl) (by decide) (by decide) ?_
  rintro v269 T269 h269 L269 X269 e269 ⟨rfl, N269, ⟨bi269, bw269, k1269, k2269, K269, ga269, gb269, nn269, Q269_0, Q269_1, Q269_2, Q269_3, Q269_4, Q269_5⟩⟩
  have N269a := Fr.app (Fr.nil _) N269
  have n270 : a ≠ bi269 := Nat.ne_of_lt (Nat.lt_of_lt_of_le (E0.lt) ga269)
  have n271 : ai ≠ bi269 := Nat.ne_of_lt (Nat.lt_of_lt_of_le (P4.lt) ga269)
  have n272 : aw ≠ bi269 := Nat.ne_of_lt (Nat.lt_of_lt_of_le (P5.lt) ga269)
  have f273 : Z.heap.size ≤ bi269 := Nat.le_trans (O0).1 ga269
  have K274 : Keep h0 h0 [a] := (Keep.refl _ _)
  have b273 : h0.size ≤ bi269 := Nat.le_trans (K274).1 ga269
  have n275 : a ≠ bw269 := Nat.ne_of_lt (Nat.lt_of_lt_of_le (E0.lt) gb269)
  have n276 : ai ≠ bw269 := Nat.ne_of_lt (Nat.lt_of_lt_of_le (P4.lt) gb269)
  have n277 : aw ≠ bw269 := Nat.ne_of_lt (Nat.lt_of_lt_of_le (P5.lt) gb269)
  have f278 : Z.heap.size ≤ bw269 := Nat.le_trans (O0).1 gb269
  have b278 : h0.size ≤ bw269 := Nat.le_trans (K274).1 gb269
  have O279 : Ext Z.heap h269 := xk O0 K269 (allS f0 all0)
  show Ends p e below s _ _ _ T269 (mkF m 10 #[rv a, iv (0 : Int32), iv ix] [])
  refine go (fun _ => XS.aloadN X269.here hx rfl (hb hby d6_10) rfl rfl) ?_
  show Ends p e below s _ _ _ T269 (mkF m 11 #[rv a, iv (0 : Int32), iv ix] [(.ref a)])
  obtain ⟨T280, X280, e280, s280⟩ := getF X269 hx hZ hown (host := "") (Or.inl (hwi hw 11 rfl)) Via.refl e269 Q269_0 (g := (mkF m 11 #[rv a, iv (0 : Int32), iv ix] [(.ref a)])) rfl rfl (hb hby d6_11)
  refine go s280 ?_
  show Ends p e below s _ _ _ T280 (mkF m 14 #[rv a, iv (0 : Int32), iv ix] [(.ref bi269)])
  refine go (fun _ => XS.iloadN X280.here hx rfl (hb hby d6_14) rfl) ?_
  refine go (fun _ => XS.aloadN X280.here hx rfl (hb hby d6_15) rfl rfl) ?_
  show Ends p e below s _ _ _ T280 (mkF m 16 #[rv a, iv (0 : Int32), iv ix] [(.ref a), (.int (0 : Int32)), (.ref bi269)])
  obtain ⟨T281, X281, e281, s281⟩ := getF X280 hx hZ hown (host := "") (Or.inl (hwi hw 11 rfl)) Via.refl e280 Q269_0 (g := (mkF m 16 #[rv a, iv (0 : Int32), iv ix] [(.ref a), (.int (0 : Int32)), (.ref bi269)])) rfl rfl (hb hby d6_16)
  refine go s281 ?_
  show Ends p e below s _ _ _ T281 (mkF m 19 #[rv a, iv (0 : Int32), iv ix] [(.ref bi269), (.int (0 : Int32)), (.ref bi269)])
  refine go (fun _ => XS.iloadN X281.here hx rfl (hb hby d6_19) rfl) ?_
  refine go (fun _ => XT.iconstV X281.here hx rfl (1 : Int32) (hb hby d6_20) (by decide)) ?_
  refine go (fun _ => XS.iadd X281.here hx rfl (hb hby d6_21) rfl) ?_
  refine go (fun _ => XS.aloadN X281.here hx rfl (hb hby d6_22) rfl rfl) ?_
  show Ends p e below s _ _ _ T281 (mkF m 23 #[rv a, iv (0 : Int32), iv ix] [(.ref a), (.int (1 : Int32)), (.ref bi269), (.int (0 : Int32)), (.ref bi269)])
  obtain ⟨T282, X282, e282, s282⟩ := getF X281 hx hZ hown (host := "") (Or.inl (hwi hw 28 rfl)) Via.refl e281 Q269_2 (g := (mkF m 23 #[rv a, iv (0 : Int32), iv ix] [(.ref a), (.int (1 : Int32)), (.ref bi269), (.int (0 : Int32)), (.ref bi269)])) rfl rfl (hb hby d6_23)
  refine go s282 ?_
  show Ends p e below s _ _ _ T282 (mkF m 26 #[rv a, iv (0 : Int32), iv ix] [(.int (2 : Int32)), (.int (1 : Int32)), (.ref bi269), (.int (0 : Int32)), (.ref bi269)])
  refine go (fun _ => XS.iloadN X282.here hx rfl (hb hby d6_26) rfl) ?_
  refine go (fun _ => XS.isub X282.here hx rfl (hb hby d6_27) rfl) ?_
  show Ends p e below s _ _ _ T282 (mkF m 28 #[rv a, iv (0 : Int32), iv ix] [(.int (2 : Int32)), (.int (1 : Int32)), (.ref bi269), (.int (0 : Int32)), (.ref bi269)])
  obtain ⟨T283, h283, L283, X283, e283, N283, K283, V283, s283⟩ := cpA X282 hx hZ hown (hwi hw 58 rfl) (hwi hw 53 rfl) (hwi hw 51 rfl) (hwi hw 52 rfl) e282 Q269_4 Q269_4 (us := [(.int i0), (.int i1)]) (Or.inl ⟨rfl, rfl⟩) (sp := (0 : Int32)) (dp := (1 : Int32)) (nn := (2 : Int32)) (by decide) (by decide) (by decide) (by decide) (by decide) rfl (Nat.le_of_ble_eq_true rfl) N269a f273 (g := (mkF m 28 #[rv a, iv (0 : Int32), iv ix] [(.int (2 : Int32)), (.int (1 : Int32)), (.ref bi269), (.int (0 : Int32)), (.ref bi269)])) rfl (by rw [hml]; rfl) rfl (hb hby d6_28) (by decide) (W := 0) (by show 2 * 0 + _ ≤ _; exact Nat.le_of_eq rfl) (by decide)
  have O284 : Ext Z.heap h283 := xk O279 K283 (allS f273 all0)
  have V283l : Arv Z h283 bi269 k1269 .int (4 : Int32) [(.int i0), (.int i0), (.int i1), (.int (0 : Int32))] (.int 0) := V283
  refine go s283 ?_
  show Ends p e below s _ _ _ T283 (mkF m 31 #[rv a, iv (0 : Int32), iv ix] [])
  refine go (fun _ => XS.aloadN X283.here hx rfl (hb hby d6_31) rfl rfl) ?_
  show Ends p e below s _ _ _ T283 (mkF m 32 #[rv a, iv (0 : Int32), iv ix] [(.ref a)])
  have F285 := (Fld.keep Q269_1 K283 (ninS n270 nin0))
  obtain ⟨T286, X286, e286, s286⟩ := getF X283 hx hZ hown (host := "") (Or.inl (hwi hw 15 rfl)) Via.refl e283 F285 (g := (mkF m 32 #[rv a, iv (0 : Int32), iv ix] [(.ref a)])) rfl rfl (hb hby d6_32)
  refine go s286 ?_
  show Ends p e below s _ _ _ T286 (mkF m 35 #[rv a, iv (0 : Int32), iv ix] [(.ref bw269)])
  refine go (fun _ => XS.iloadN X286.here hx rfl (hb hby d6_35) rfl) ?_
  refine go (fun _ => XS.aloadN X286.here hx rfl (hb hby d6_36) rfl rfl) ?_
  show Ends p e below s _ _ _ T286 (mkF m 37 #[rv a, iv (0 : Int32), iv ix] [(.ref a), (.int (0 : Int32)), (.ref bw269)])
  obtain ⟨T287, X287, e287, s287⟩ := getF X286 hx hZ hown (host := "") (Or.inl (hwi hw 15 rfl)) Via.refl e286 F285 (g := (mkF m 37 #[rv a, iv (0 : Int32), iv ix] [(.ref a), (.int (0 : Int32)), (.ref bw269)])) rfl rfl (hb hby d6_37)
  refine go s287 ?_
  show Ends p e below s _ _ _ T287 (mkF m 40 #[rv a, iv (0 : Int32), iv ix] [(.ref bw269), (.int (0 : Int32)), (.ref bw269)])
  refine go (fun _ => XS.iloadN X287.here hx rfl (hb hby d6_40) rfl) ?_
  refine go (fun _ => XT.iconstV X287.here hx rfl (1 : Int32) (hb hby d6_41) (by decide)) ?_
  refine go (fun _ => XS.iadd X287.here hx rfl (hb hby d6_42) rfl) ?_
  refine go (fun _ => XS.aloadN X287.here hx rfl (hb hby d6_43) rfl rfl) ?_
  show Ends p e below s _ _ _ T287 (mkF m 44 #[rv a, iv (0 : Int32), iv ix] [(.ref a), (.int (1 : Int32)), (.ref bw269), (.int (0 : Int32)), (.ref bw269)])
  have F288 := (Fld.keep Q269_2 K283 (ninS n270 nin0))
  obtain ⟨T289, X289, e289, s289⟩ := getF X287 hx hZ hown (host := "") (Or.inl (hwi hw 28 rfl)) Via.refl e287 F288 (g := (mkF m 44 #[rv a, iv (0 : Int32), iv ix] [(.ref a), (.int (1 : Int32)), (.ref bw269), (.int (0 : Int32)), (.ref bw269)])) rfl rfl (hb hby d6_44)
  refine go s289 ?_
  show Ends p e below s _ _ _ T289 (mkF m 47 #[rv a, iv (0 : Int32), iv ix] [(.int (2 : Int32)), (.int (1 : Int32)), (.ref bw269), (.int (0 : Int32)), (.ref bw269)])
  refine go (fun _ => XS.iloadN X289.here hx rfl (hb hby d6_47) rfl) ?_
  refine go (fun _ => XS.isub X289.here hx rfl (hb hby d6_48) rfl) ?_
  show Ends p e below s _ _ _ T289 (mkF m 49 #[rv a, iv (0 : Int32), iv ix] [(.int (2 : Int32)), (.int (1 : Int32)), (.ref bw269), (.int (0 : Int32)), (.ref bw269)])
  have F291 := (Arv.keep Q269_5 K283 (ninS (Ne.symm nn269) nin0))
  obtain ⟨T290, h290, L290, X290, e290, N290, K290, V290, s290⟩ := cpA X289 hx hZ hown (hwi hw 58 rfl) (hwi hw 53 rfl) (hwi hw 51 rfl) (hwi hw 52 rfl) e289 F291 F291 (us := [(.long w0), (.long w1)]) (Or.inl ⟨rfl, rfl⟩) (sp := (0 : Int32)) (dp := (1 : Int32)) (nn := (2 : Int32)) (by decide) (by decide) (by decide) (by decide) (by decide) rfl (Nat.le_of_ble_eq_true rfl) N283 f278 (g := (mkF m 49 #[rv a, iv (0 : Int32), iv ix] [(.int (2 : Int32)), (.int (1 : Int32)), (.ref bw269), (.int (0 : Int32)), (.ref bw269)])) rfl (by rw [hml]; rfl) rfl (hb hby d6_49) (by decide) (W := 0) (by show 2 * 0 + _ ≤ _; exact Nat.le_of_eq rfl) (by decide)
  have O292 : Ext Z.heap h290 := xk O284 K290 (allS f278 all0)
  have V290l : Arv Z h290 bw269 k2269 .long (4 : Int32) [(.long w0), (.long w0), (.long w1), (.long (0 : Int64))] (.long 0) := V290
  refine go s290 ?_
  show Ends p e below s _ _ _ T290 (mkF m 52 #[rv a, iv (0 : Int32), iv ix] [])
  refine go (fun _ => XS.aloadN X290.here hx rfl (hb hby d6_52) rfl rfl) ?_
  show Ends p e below s _ _ _ T290 (mkF m 53 #[rv a, iv (0 : Int32), iv ix] [(.ref a)])
  have F293 := (Fld.keep (Fld.keep Q269_0 K283 (ninS n270 nin0)) K290 (ninS n275 nin0))
  obtain ⟨T294, X294, e294, s294⟩ := getF X290 hx hZ hown (host := "") (Or.inl (hwi hw 11 rfl)) Via.refl e290 F293 (g := (mkF m 53 #[rv a, iv (0 : Int32), iv ix] [(.ref a)])) rfl rfl (hb hby d6_53)
  refine go s294 ?_
  show Ends p e below s _ _ _ T294 (mkF m 56 #[rv a, iv (0 : Int32), iv ix] [(.ref bi269)])
  refine go (fun _ => XS.iloadN X294.here hx rfl (hb hby d6_56) rfl) ?_
  refine go (fun _ => XS.iloadN X294.here hx rfl (hb hby d6_57) rfl) ?_
  show Ends p e below s _ _ _ T294 (mkF m 58 #[rv a, iv (0 : Int32), iv ix] [(.int ix), (.int (0 : Int32)), (.ref bi269)])
  have F295 := (Arv.keep V283l K290 (ninS nn269 nin0))
  obtain ⟨cl296, A296, q296, S296, M296, H296, G296⟩ := id F295
  obtain ⟨T296, h296, X296, e296, W296, s296⟩ := stI X294 hx hZ e294 A296 (j := (0 : Int32)) (inb_of S296 (by decide)) (g := (mkF m 58 #[rv a, iv (0 : Int32), iv ix] [(.int ix), (.int (0 : Int32)), (.ref bi269)])) rfl rfl (hb hby d6_58)
  have N296 := Fr.snoc X296 N290 f273
  have O297 : Ext Z.heap h296 := xw O292 W296 f273
  have V296 : Arv Z h296 bi269 k1269 .int (4 : Int32) [(.int ix), (.int i0), (.int i1), (.int (0 : Int32))] (.int 0) := Arv.set A296 q296 S296 M296 H296 G296 rfl W296 0 (by decide) (Nat.le_of_ble_eq_true rfl)
  refine go s296 ?_
  show Ends p e below s _ _ _ T296 (mkF m 59 #[rv a, iv (0 : Int32), iv ix] [])
  refine go (fun _ => XS.aloadN X296.here hx rfl (hb hby d6_59) rfl rfl) ?_
  show Ends p e below s _ _ _ T296 (mkF m 60 #[rv a, iv (0 : Int32), iv ix] [(.ref a)])
  have F298 := (Fld.other W296 (Fld.keep F285 K290 (ninS n275 nin0)) (Or.inl n270))
  obtain ⟨T299, X299, e299, s299⟩ := getF X296 hx hZ hown (host := "") (Or.inl (hwi hw 15 rfl)) Via.refl e296 F298 (g := (mkF m 60 #[rv a, iv (0 : Int32), iv ix] [(.ref a)])) rfl rfl (hb hby d6_60)
  refine go s299 ?_
  show Ends p e below s _ _ _ T299 (mkF m 63 #[rv a, iv (0 : Int32), iv ix] [(.ref bw269)])
  refine go (fun _ => XS.iloadN X299.here hx rfl (hb hby d6_63) rfl) ?_
  refine go (fun _ => XT.lconstV X299.here hx rfl (0 : Int64) (hb hby d6_64) (by decide)) ?_
  show Ends p e below s _ _ _ T299 (mkF m 65 #[rv a, iv (0 : Int32), iv ix] [(.long (0 : Int64)), (.int (0 : Int32)), (.ref bw269)])
  have F300 := (Arv.other V290l W296 (Ne.symm nn269))
  obtain ⟨cl301, A301, q301, S301, M301, H301, G301⟩ := id F300
  obtain ⟨T301, h301, X301, e301, W301, s301⟩ := stJ X299 hx hZ e299 A301 (j := (0 : Int32)) (inb_of S301 (by decide)) (g := (mkF m 65 #[rv a, iv (0 : Int32), iv ix] [(.long (0 : Int64)), (.int (0 : Int32)), (.ref bw269)])) rfl rfl (hb hby d6_65)
  have N301 := Fr.snoc X301 N296 f278
  have O302 : Ext Z.heap h301 := xw O297 W301 f278
  have V301 : Arv Z h301 bw269 k2269 .long (4 : Int32) [(.long (0 : Int64)), (.long w0), (.long w1), (.long (0 : Int64))] (.long 0) := Arv.set A301 q301 S301 M301 H301 G301 rfl W301 0 (by decide) (Nat.le_of_ble_eq_true rfl)
  refine go s301 ?_
  show Ends p e below s _ _ _ T301 (mkF m 66 #[rv a, iv (0 : Int32), iv ix] [])
  refine go (fun _ => XS.aloadN X301.here hx rfl (hb hby d6_66) rfl rfl) ?_
  refine go (fun _ => XS.dup X301.here hx rfl (hb hby d6_67) rfl rfl) ?_
  show Ends p e below s _ _ _ T301 (mkF m 68 #[rv a, iv (0 : Int32), iv ix] [(.ref a), (.ref a)])
  have F303 := (Fld.other W301 (Fld.other W296 (Fld.keep F288 K290 (ninS n275 nin0)) (Or.inl n270)) (Or.inl n275))
  obtain ⟨T304, X304, e304, s304⟩ := getF X301 hx hZ hown (host := "") (Or.inl (hwi hw 28 rfl)) Via.refl e301 F303 (g := (mkF m 68 #[rv a, iv (0 : Int32), iv ix] [(.ref a), (.ref a)])) rfl rfl (hb hby d6_68)
  refine go s304 ?_
  show Ends p e below s _ _ _ T304 (mkF m 71 #[rv a, iv (0 : Int32), iv ix] [(.int (2 : Int32)), (.ref a)])
  refine go (fun _ => XT.iconstV X304.here hx rfl (1 : Int32) (hb hby d6_71) (by decide)) ?_
  refine go (fun _ => XS.iadd X304.here hx rfl (hb hby d6_72) rfl) ?_
  show Ends p e below s _ _ _ T304 (mkF m 73 #[rv a, iv (0 : Int32), iv ix] [(.int (3 : Int32)), (.ref a)])
  have F305 := (Exa.wr W301 (Exa.wr W296 (Exa.keep (Exa.keep (Exa.keep E0 K269) K283) K290)))
  obtain ⟨T306, h306, X306, e306, W306, s306⟩ := putF X304 hx hZ hown (host := "") (Or.inl (hwi hw 28 rfl)) Via.refl e304 F303 F305 (Or.inl (hwi hw 29 rfl)) (hwi hw 1 rfl) (ty := .int) (by decide) rfl rfl (g := (mkF m 73 #[rv a, iv (0 : Int32), iv ix] [(.int (3 : Int32)), (.ref a)])) rfl rfl (hb hby d6_73)
  have N306 := Fr.snoc X306 N301 f0
  have O307 : Ext Z.heap h306 := xw O302 W306 f0
  refine go s306 ?_
  show Ends p e below s _ _ _ T306 (mkF m 76 #[rv a, iv (0 : Int32), iv ix] [])
  have F308 := (Fld.other W306 (Fld.other W301 (Fld.other W296 F293 (Or.inl n270)) (Or.inl n275)) (Or.inr (slot_ne (a0 := a0) (Or.inl (hwi hw 12 rfl)) (Or.inl (hwi hw 29 rfl)) (by decide) (t := (.array .int)) (t' := .int) (by decide) (by decide))))
  have F309 := (Fld.other W306 (Fld.other W301 F298 (Or.inl n275)) (Or.inr (slot_ne (a0 := a0) (Or.inl (hwi hw 16 rfl)) (Or.inl (hwi hw 29 rfl)) (by decide) (t := (.array .long)) (t' := .int) (by decide) (by decide))))
  have F310 := (Fld.same W306 F303)
  have F311 := (Fld.other W306 (Fld.other W301 (Fld.other W296 (Fld.keep (Fld.keep Q269_3 K283 (ninS n270 nin0)) K290 (ninS n275 nin0)) (Or.inl n270)) (Or.inl n275)) (Or.inr (slot_ne (a0 := a0) (Or.inl (hwi hw 27 rfl)) (Or.inl (hwi hw 29 rfl)) (by decide) (t := .int) (t' := .int) (by decide) (by decide))))
  have F312 := (Arv.other (Arv.other V296 W301 nn269) W306 (Ne.symm n270))
  have F313 := (Arv.other V301 W306 (Ne.symm n275))
  have K314 : Keep h0 h306 [a] := (Keep.wr (Keep.wr (Keep.wr (Keep.trans (Keep.trans (Keep.trans K274 K269 (allS (Or.inl (List.mem_of_getElem? (i := 0) rfl)) all0)) K283 (allS (Or.inr b273) all0)) K290 (allS (Or.inr b278) all0)) W296 (Or.inr b273)) W301 (Or.inr b278)) W306 (Or.inl (List.mem_of_getElem? (i := 0) rfl)))
  exact endV X306 hx hlk hret (hb hby d6_76) e306 ⟨rfl, N306, ⟨bi269, bw269, _, _, K314, b273, b278, nn269, F308, F309, F310, F311, F312, F313⟩⟩ (by decide) (by decide)
set_option maxRecDepth 65536 in
set_option maxHeartbeats 40000000 in
theorem rm_ins2_1 {l : Launch} {Z : State} {a0 : Array Value} (hw : ∀ d ∈ tables_1, d.before a0 Z = true) (a ai aw : Addr) (ki kw : ClassId) (i0 i1 : Int32) (w0 w1 : Int64) (ix : Int32) (h0 : Heap) (O0 : Ext Z.heap h0) (f0 : Z.heap.size ≤ a) (E0 : Exa Z h0 a "com/example/libtbox/libtbox/core/SparseBitSet") (P0 : Fld Z h0 a "com/example/libtbox/libtbox/core/SparseBitSet" "indices" "[I" (.ref ai)) (P1 : Fld Z h0 a "com/example/libtbox/libtbox/core/SparseBitSet" "words" "[J" (.ref aw)) (P2 : Fld Z h0 a "com/example/libtbox/libtbox/core/SparseBitSet" "count" "I" (.int (2 : Int32))) (P3 : Fld Z h0 a "com/example/libtbox/libtbox/core/SparseBitSet" "lastFound" "I" (.int (0 : Int32))) (P4 : Arv Z h0 ai ki .int (2 : Int32) [(.int i0), (.int i1)] (.int 0)) (P5 : Arv Z h0 aw kw .long (2 : Int32) [(.long w0), (.long w1)] (.long 0)) (fi : Z.heap.size ≤ ai) (fw : Z.heap.size ≤ aw) (nai : a ≠ ai) (naw : a ≠ aw) (niw : ai ≠ aw)  :
    Con l (⟨"com/example/libtbox/libtbox/core/SparseBitSet", "insert", "(II)V"⟩ : MethodName) prog_51_method_19_code 3 none ({ frames := 3, cells := 2, slots := 8, locals := 47 } : Room) Z #[(.ref a), (.int (1 : Int32)), (.int ix)] h0 (fun v h L => v = none ∧ Fr Z.heap.size L ∧ ∃ (bi bw : Addr) (k1 k2 : ClassId), Keep h0 h [a] ∧ h0.size ≤ bi ∧ h0.size ≤ bw ∧ bi ≠ bw ∧ Fld Z h a "com/example/libtbox/libtbox/core/SparseBitSet" "indices" "[I" (.ref bi) ∧ Fld Z h a "com/example/libtbox/libtbox/core/SparseBitSet" "words" "[J" (.ref bw) ∧ Fld Z h a "com/example/libtbox/libtbox/core/SparseBitSet" "count" "I" (.int (3 : Int32)) ∧ Fld Z h a "com/example/libtbox/libtbox/core/SparseBitSet" "lastFound" "I" (.int (0 : Int32)) ∧ Arv Z h bi k1 .int (4 : Int32) [(.int i0), (.int ix), (.int i1), (.int (0 : Int32))] (.int 0) ∧ Arv Z h bw k2 .long (4 : Int32) [(.long w0), (.long (0 : Int64)), (.long w1), (.long (0 : Int64))] (.long 0)) := by
  refine Con.of (plainFor_of_name pn_0) (Ls := #[rv a, iv (1 : Int32), iv ix]) (fun m => efOf rfl) ?_
  intro p e s m below meth c T0 X0 hx hZ hby hml hown hnm hret hlk e0
  refine go (fun _ => XS.aloadN X0.here hx rfl (hb hby d6_0) rfl rfl) ?_
  refine go (fun _ => XS.aloadN X0.here hx rfl (hb hby d6_1) rfl rfl) ?_
  show Ends p e below s _ _ _ T0 (mkF m 2 #[rv a, iv (1 : Int32), iv ix] [(.ref a), (.ref a)])
  obtain ⟨T315, X315, e315, s315⟩ := getF X0 hx hZ hown (host := "") (Or.inl (hwi hw 28 rfl)) Via.refl e0 P2 (g := (mkF m 2 #[rv a, iv (1 : Int32), iv ix] [(.ref a), (.ref a)])) rfl rfl (hb hby d6_2)
  refine go s315 ?_
  show Ends p e below s _ _ _ T315 (mkF m 5 #[rv a, iv (1 : Int32), iv ix] [(.int (2 : Int32)), (.ref a)])
  refine go (fun _ => XT.iconstV X315.here hx rfl (1 : Int32) (hb hby d6_5) (by decide)) ?_
  refine go (fun _ => XS.iadd X315.here hx rfl (hb hby d6_6) rfl) ?_
  show Ends p e below s _ _ _ T315 (mkF m 7 #[rv a, iv (1 : Int32), iv ix] [(.int (3 : Int32)), (.ref a)])
  refine cPriv X315 hx hZ hown (by rw [hml]; rfl) e315 (hwi hw 34 rfl) (hwi hw 35 rfl) (hwi hw 36 rfl) (hwi hw 1 rfl) (hwi hw 2 rfl) (hwi hw 37 rfl) a E0 [(.int (3 : Int32))] [] rfl (rm_grow2 hw a ai aw ki kw i0 i1 w0 w1 _ O0 f0 E0 P0 P1 P2 P3 P4 P5 fi fw nai naw niw) (hb hby d6_7) rfl (lenOf pd_5 rfl) (by decide) (by decide) (Nat.le_of_ble_eq_true rfl) (by decide) (by decide) ?_
  rintro v316 T316 h316 L316 X316 e316 ⟨rfl, N316, ⟨bi316, bw316, k1316, k2316, K316, ga316, gb316, nn316, Q316_0, Q316_1, Q316_2, Q316_3, Q316_4, Q316_5⟩⟩
  have N316a := Fr.app (Fr.nil _) N316
  have n317 : a ≠ bi316 := Nat.ne_of_lt (Nat.lt_of_lt_of_le (E0.lt) ga316)
  have n318 : ai ≠ bi316 := Nat.ne_of_lt (Nat.lt_of_lt_of_le (P4.lt) ga316)
  have n319 : aw ≠ bi316 := Nat.ne_of_lt (Nat.lt_of_lt_of_le (P5.lt) ga316)
  have f320 : Z.heap.size ≤ bi316 := Nat.le_trans (O0).1 ga316
  have K321 : Keep h0 h0 [a] := (Keep.refl _ _)
  have b320 : h0.size ≤ bi316 := Nat.le_trans (K321).1 ga316
  have n322 : a ≠ bw316 := Nat.ne_of_lt (Nat.lt_of_lt_of_le (E0.lt) gb316)
  have n323 : ai ≠ bw316 := Nat.ne_of_lt (Nat.lt_of_lt_of_le (P4.lt) gb316)
  have n324 : aw ≠ bw316 := Nat.ne_of_lt (Nat.lt_of_lt_of_le (P5.lt) gb316)
  have f325 : Z.heap.size ≤ bw316 := Nat.le_trans (O0).1 gb316
  have b325 : h0.size ≤ bw316 := Nat.le_trans (K321).1 gb316
  have O326 : Ext Z.heap h316 := xk O0 K316 (allS f0 all0)
  show Ends p e below s _ _ _ T316 (mkF m 10 #[rv a, iv (1 : Int32), iv ix] [])
  refine go (fun _ => XS.aloadN X316.here hx rfl (hb hby d6_10) rfl rfl) ?_
  show Ends p e below s _ _ _ T316 (mkF m 11 #[rv a, iv (1 : Int32), iv ix] [(.ref a)])
  obtain ⟨T327, X327, e327, s327⟩ := getF X316 hx hZ hown (host := "") (Or.inl (hwi hw 11 rfl)) Via.refl e316 Q316_0 (g := (mkF m 11 #[rv a, iv (1 : Int32), iv ix] [(.ref a)])) rfl rfl (hb hby d6_11)
  refine go s327 ?_
  show Ends p e below s _ _ _ T327 (mkF m 14 #[rv a, iv (1 : Int32), iv ix] [(.ref bi316)])
  refine go (fun _ => XS.iloadN X327.here hx rfl (hb hby d6_14) rfl) ?_
  refine go (fun _ => XS.aloadN X327.here hx rfl (hb hby d6_15) rfl rfl) ?_
  show Ends p e below s _ _ _ T327 (mkF m 16 #[rv a, iv (1 : Int32), iv ix] [(.ref a), (.int (1 : Int32)), (.ref bi316)])
  obtain ⟨T328, X328, e328, s328⟩ := getF X327 hx hZ hown (host := "") (Or.inl (hwi hw 11 rfl)) Via.refl e327 Q316_0 (g := (mkF m 16 #[rv a, iv (1 : Int32), iv ix] [(.ref a), (.int (1 : Int32)), (.ref bi316)])) rfl rfl (hb hby d6_16)
  refine go s328 ?_
  show Ends p e below s _ _ _ T328 (mkF m 19 #[rv a, iv (1 : Int32), iv ix] [(.ref bi316), (.int (1 : Int32)), (.ref bi316)])
  refine go (fun _ => XS.iloadN X328.here hx rfl (hb hby d6_19) rfl) ?_
  refine go (fun _ => XT.iconstV X328.here hx rfl (1 : Int32) (hb hby d6_20) (by decide)) ?_
  refine go (fun _ => XS.iadd X328.here hx rfl (hb hby d6_21) rfl) ?_
  refine go (fun _ => XS.aloadN X328.here hx rfl (hb hby d6_22) rfl rfl) ?_
  show Ends p e below s _ _ _ T328 (mkF m 23 #[rv a, iv (1 : Int32), iv ix] [(.ref a), (.int (2 : Int32)), (.ref bi316), (.int (1 : Int32)), (.ref bi316)])
  obtain ⟨T329, X329, e329, s329⟩ := getF X328 hx hZ hown (host := "") (Or.inl (hwi hw 28 rfl)) Via.refl e328 Q316_2 (g := (mkF m 23 #[rv a, iv (1 : Int32), iv ix] [(.ref a), (.int (2 : Int32)), (.ref bi316), (.int (1 : Int32)), (.ref bi316)])) rfl rfl (hb hby d6_23)
  refine go s329 ?_
  show Ends p e below s _ _ _ T329 (mkF m 26 #[rv a, iv (1 : Int32), iv ix] [(.int (2 : Int32)), (.int (2 : Int32)), (.ref bi316), (.int (1 : Int32)), (.ref bi316)])
  refine go (fun _ => XS.iloadN X329.here hx rfl (hb hby d6_26) rfl) ?_
  refine go (fun _ => XS.isub X329.here hx rfl (hb hby d6_27) rfl) ?_
  show Ends p e below s _ _ _ T329 (mkF m 28 #[rv a, iv (1 : Int32), iv ix] [(.int (1 : Int32)), (.int (2 : Int32)), (.ref bi316), (.int (1 : Int32)), (.ref bi316)])
  obtain ⟨T330, h330, L330, X330, e330, N330, K330, V330, s330⟩ := cpA X329 hx hZ hown (hwi hw 58 rfl) (hwi hw 53 rfl) (hwi hw 51 rfl) (hwi hw 52 rfl) e329 Q316_4 Q316_4 (us := [(.int i1)]) (Or.inl ⟨rfl, rfl⟩) (sp := (1 : Int32)) (dp := (2 : Int32)) (nn := (1 : Int32)) (by decide) (by decide) (by decide) (by decide) (by decide) rfl (Nat.le_of_ble_eq_true rfl) N316a f320 (g := (mkF m 28 #[rv a, iv (1 : Int32), iv ix] [(.int (1 : Int32)), (.int (2 : Int32)), (.ref bi316), (.int (1 : Int32)), (.ref bi316)])) rfl (by rw [hml]; rfl) rfl (hb hby d6_28) (by decide) (W := 0) (by show 2 * 0 + _ ≤ _; exact Nat.le_of_eq rfl) (by decide)
  have O331 : Ext Z.heap h330 := xk O326 K330 (allS f320 all0)
  have V330l : Arv Z h330 bi316 k1316 .int (4 : Int32) [(.int i0), (.int i1), (.int i1), (.int (0 : Int32))] (.int 0) := V330
  refine go s330 ?_
  show Ends p e below s _ _ _ T330 (mkF m 31 #[rv a, iv (1 : Int32), iv ix] [])
  refine go (fun _ => XS.aloadN X330.here hx rfl (hb hby d6_31) rfl rfl) ?_
  show Ends p e below s _ _ _ T330 (mkF m 32 #[rv a, iv (1 : Int32), iv ix] [(.ref a)])
  have F332 := (Fld.keep Q316_1 K330 (ninS n317 nin0))
  obtain ⟨T333, X333, e333, s333⟩ := getF X330 hx hZ hown (host := "") (Or.inl (hwi hw 15 rfl)) Via.refl e330 F332 (g := (mkF m 32 #[rv a, iv (1 : Int32), iv ix] [(.ref a)])) rfl rfl (hb hby d6_32)
  refine go s333 ?_
  show Ends p e below s _ _ _ T333 (mkF m 35 #[rv a, iv (1 : Int32), iv ix] [(.ref bw316)])
  refine go (fun _ => XS.iloadN X333.here hx rfl (hb hby d6_35) rfl) ?_
  refine go (fun _ => XS.aloadN X333.here hx rfl (hb hby d6_36) rfl rfl) ?_
  show Ends p e below s _ _ _ T333 (mkF m 37 #[rv a, iv (1 : Int32), iv ix] [(.ref a), (.int (1 : Int32)), (.ref bw316)])
  obtain ⟨T334, X334, e334, s334⟩ := getF X333 hx hZ hown (host := "") (Or.inl (hwi hw 15 rfl)) Via.refl e333 F332 (g := (mkF m 37 #[rv a, iv (1 : Int32), iv ix] [(.ref a), (.int (1 : Int32)), (.ref bw316)])) rfl rfl (hb hby d6_37)
  refine go s334 ?_
  show Ends p e below s _ _ _ T334 (mkF m 40 #[rv a, iv (1 : Int32), iv ix] [(.ref bw316), (.int (1 : Int32)), (.ref bw316)])
  refine go (fun _ => XS.iloadN X334.here hx rfl (hb hby d6_40) rfl) ?_
  refine go (fun _ => XT.iconstV X334.here hx rfl (1 : Int32) (hb hby d6_41) (by decide)) ?_
  refine go (fun _ => XS.iadd X334.here hx rfl (hb hby d6_42) rfl) ?_
  refine go (fun _ => XS.aloadN X334.here hx rfl (hb hby d6_43) rfl rfl) ?_
  show Ends p e below s _ _ _ T334 (mkF m 44 #[rv a, iv (1 : Int32), iv ix] [(.ref a), (.int (2 : Int32)), (.ref bw316), (.int (1 : Int32)), (.ref bw316)])
  have F335 := (Fld.keep Q316_2 K330 (ninS n317 nin0))
  obtain ⟨T336, X336, e336, s336⟩ := getF X334 hx hZ hown (host := "") (Or.inl (hwi hw 28 rfl)) Via.refl e334 F335 (g := (mkF m 44 #[rv a, iv (1 : Int32), iv ix] [(.ref a), (.int (2 : Int32)), (.ref bw316), (.int (1 : Int32)), (.ref bw316)])) rfl rfl (hb hby d6_44)
  refine go s336 ?_
  show Ends p e below s _ _ _ T336 (mkF m 47 #[rv a, iv (1 : Int32), iv ix] [(.int (2 : Int32)), (.int (2 : Int32)), (.ref bw316), (.int (1 : Int32)), (.ref bw316)])
  refine go (fun _ => XS.iloadN X336.here hx rfl (hb hby d6_47) rfl) ?_
  refine go (fun _ => XS.isub X336.here hx rfl (hb hby d6_48) rfl) ?_
  show Ends p e below s _ _ _ T336 (mkF m 49 #[rv a, iv (1 : Int32), iv ix] [(.int (1 : Int32)), (.int (2 : Int32)), (.ref bw316), (.int (1 : Int32)), (.ref bw316)])
  have F338 := (Arv.keep Q316_5 K330 (ninS (Ne.symm nn316) nin0))
  obtain ⟨T337, h337, L337, X337, e337, N337, K337, V337, s337⟩ := cpA X336 hx hZ hown (hwi hw 58 rfl) (hwi hw 53 rfl) (hwi hw 51 rfl) (hwi hw 52 rfl) e336 F338 F338 (us := [(.long w1)]) (Or.inl ⟨rfl, rfl⟩) (sp := (1 : Int32)) (dp := (2 : Int32)) (nn := (1 : Int32)) (by decide) (by decide) (by decide) (by decide) (by decide) rfl (Nat.le_of_ble_eq_true rfl) N330 f325 (g := (mkF m 49 #[rv a, iv (1 : Int32), iv ix] [(.int (1 : Int32)), (.int (2 : Int32)), (.ref bw316), (.int (1 : Int32)), (.ref bw316)])) rfl (by rw [hml]; rfl) rfl (hb hby d6_49) (by decide) (W := 0) (by show 2 * 0 + _ ≤ _; exact Nat.le_of_eq rfl) (by decide)
  have O339 : Ext Z.heap h337 := xk O331 K337 (allS f325 all0)
  have V337l : Arv Z h337 bw316 k2316 .long (4 : Int32) [(.long w0), (.long w1), (.long w1), (.long (0 : Int64))] (.long 0) := V337
  refine go s337 ?_
  show Ends p e below s _ _ _ T337 (mkF m 52 #[rv a, iv (1 : Int32), iv ix] [])
  refine go (fun _ => XS.aloadN X337.here hx rfl (hb hby d6_52) rfl rfl) ?_
  show Ends p e below s _ _ _ T337 (mkF m 53 #[rv a, iv (1 : Int32), iv ix] [(.ref a)])
  have F340 := (Fld.keep (Fld.keep Q316_0 K330 (ninS n317 nin0)) K337 (ninS n322 nin0))
  obtain ⟨T341, X341, e341, s341⟩ := getF X337 hx hZ hown (host := "") (Or.inl (hwi hw 11 rfl)) Via.refl e337 F340 (g := (mkF m 53 #[rv a, iv (1 : Int32), iv ix] [(.ref a)])) rfl rfl (hb hby d6_53)
  refine go s341 ?_
  show Ends p e below s _ _ _ T341 (mkF m 56 #[rv a, iv (1 : Int32), iv ix] [(.ref bi316)])
  refine go (fun _ => XS.iloadN X341.here hx rfl (hb hby d6_56) rfl) ?_
  refine go (fun _ => XS.iloadN X341.here hx rfl (hb hby d6_57) rfl) ?_
  show Ends p e below s _ _ _ T341 (mkF m 58 #[rv a, iv (1 : Int32), iv ix] [(.int ix), (.int (1 : Int32)), (.ref bi316)])
  have F342 := (Arv.keep V330l K337 (ninS nn316 nin0))
  obtain ⟨cl343, A343, q343, S343, M343, H343, G343⟩ := id F342
  obtain ⟨T343, h343, X343, e343, W343, s343⟩ := stI X341 hx hZ e341 A343 (j := (1 : Int32)) (inb_of S343 (by decide)) (g := (mkF m 58 #[rv a, iv (1 : Int32), iv ix] [(.int ix), (.int (1 : Int32)), (.ref bi316)])) rfl rfl (hb hby d6_58)
  have N343 := Fr.snoc X343 N337 f320
  have O344 : Ext Z.heap h343 := xw O339 W343 f320
  have V343 : Arv Z h343 bi316 k1316 .int (4 : Int32) [(.int i0), (.int ix), (.int i1), (.int (0 : Int32))] (.int 0) := Arv.set A343 q343 S343 M343 H343 G343 rfl W343 1 (by decide) (Nat.le_of_ble_eq_true rfl)
  refine go s343 ?_
  show Ends p e below s _ _ _ T343 (mkF m 59 #[rv a, iv (1 : Int32), iv ix] [])
  refine go (fun _ => XS.aloadN X343.here hx rfl (hb hby d6_59) rfl rfl) ?_
  show Ends p e below s _ _ _ T343 (mkF m 60 #[rv a, iv (1 : Int32), iv ix] [(.ref a)])
  have F345 := (Fld.other W343 (Fld.keep F332 K337 (ninS n322 nin0)) (Or.inl n317))
  obtain ⟨T346, X346, e346, s346⟩ := getF X343 hx hZ hown (host := "") (Or.inl (hwi hw 15 rfl)) Via.refl e343 F345 (g := (mkF m 60 #[rv a, iv (1 : Int32), iv ix] [(.ref a)])) rfl rfl (hb hby d6_60)
  refine go s346 ?_
  show Ends p e below s _ _ _ T346 (mkF m 63 #[rv a, iv (1 : Int32), iv ix] [(.ref bw316)])
  refine go (fun _ => XS.iloadN X346.here hx rfl (hb hby d6_63) rfl) ?_
  refine go (fun _ => XT.lconstV X346.here hx rfl (0 : Int64) (hb hby d6_64) (by decide)) ?_
  show Ends p e below s _ _ _ T346 (mkF m 65 #[rv a, iv (1 : Int32), iv ix] [(.long (0 : Int64)), (.int (1 : Int32)), (.ref bw316)])
  have F347 := (Arv.other V337l W343 (Ne.symm nn316))
  obtain ⟨cl348, A348, q348, S348, M348, H348, G348⟩ := id F347
  obtain ⟨T348, h348, X348, e348, W348, s348⟩ := stJ X346 hx hZ e346 A348 (j := (1 : Int32)) (inb_of S348 (by decide)) (g := (mkF m 65 #[rv a, iv (1 : Int32), iv ix] [(.long (0 : Int64)), (.int (1 : Int32)), (.ref bw316)])) rfl rfl (hb hby d6_65)
  have N348 := Fr.snoc X348 N343 f325
  have O349 : Ext Z.heap h348 := xw O344 W348 f325
  have V348 : Arv Z h348 bw316 k2316 .long (4 : Int32) [(.long w0), (.long (0 : Int64)), (.long w1), (.long (0 : Int64))] (.long 0) := Arv.set A348 q348 S348 M348 H348 G348 rfl W348 1 (by decide) (Nat.le_of_ble_eq_true rfl)
  refine go s348 ?_
  show Ends p e below s _ _ _ T348 (mkF m 66 #[rv a, iv (1 : Int32), iv ix] [])
  refine go (fun _ => XS.aloadN X348.here hx rfl (hb hby d6_66) rfl rfl) ?_
  refine go (fun _ => XS.dup X348.here hx rfl (hb hby d6_67) rfl rfl) ?_
  show Ends p e below s _ _ _ T348 (mkF m 68 #[rv a, iv (1 : Int32), iv ix] [(.ref a), (.ref a)])
  have F350 := (Fld.other W348 (Fld.other W343 (Fld.keep F335 K337 (ninS n322 nin0)) (Or.inl n317)) (Or.inl n322))
  obtain ⟨T351, X351, e351, s351⟩ := getF X348 hx hZ hown (host := "") (Or.inl (hwi hw 28 rfl)) Via.refl e348 F350 (g := (mkF m 68 #[rv a, iv (1 : Int32), iv ix] [(.ref a), (.ref a)])) rfl rfl (hb hby d6_68)
  refine go s351 ?_
  show Ends p e below s _ _ _ T351 (mkF m 71 #[rv a, iv (1 : Int32), iv ix] [(.int (2 : Int32)), (.ref a)])
  refine go (fun _ => XT.iconstV X351.here hx rfl (1 : Int32) (hb hby d6_71) (by decide)) ?_
  refine go (fun _ => XS.iadd X351.here hx rfl (hb hby d6_72) rfl) ?_
  show Ends p e below s _ _ _ T351 (mkF m 73 #[rv a, iv (1 : Int32), iv ix] [(.int (3 : Int32)), (.ref a)])
  have F352 := (Exa.wr W348 (Exa.wr W343 (Exa.keep (Exa.keep (Exa.keep E0 K316) K330) K337)))
  obtain ⟨T353, h353, X353, e353, W353, s353⟩ := putF X351 hx hZ hown (host := "") (Or.inl (hwi hw 28 rfl)) Via.refl e351 F350 F352 (Or.inl (hwi hw 29 rfl)) (hwi hw 1 rfl) (ty := .int) (by decide) rfl rfl (g := (mkF m 73 #[rv a, iv (1 : Int32), iv ix] [(.int (3 : Int32)), (.ref a)])) rfl rfl (hb hby d6_73)
  have N353 := Fr.snoc X353 N348 f0
  have O354 : Ext Z.heap h353 := xw O349 W353 f0
  refine go s353 ?_
  show Ends p e below s _ _ _ T353 (mkF m 76 #[rv a, iv (1 : Int32), iv ix] [])
  have F355 := (Fld.other W353 (Fld.other W348 (Fld.other W343 F340 (Or.inl n317)) (Or.inl n322)) (Or.inr (slot_ne (a0 := a0) (Or.inl (hwi hw 12 rfl)) (Or.inl (hwi hw 29 rfl)) (by decide) (t := (.array .int)) (t' := .int) (by decide) (by decide))))
  have F356 := (Fld.other W353 (Fld.other W348 F345 (Or.inl n322)) (Or.inr (slot_ne (a0 := a0) (Or.inl (hwi hw 16 rfl)) (Or.inl (hwi hw 29 rfl)) (by decide) (t := (.array .long)) (t' := .int) (by decide) (by decide))))
  have F357 := (Fld.same W353 F350)
  have F358 := (Fld.other W353 (Fld.other W348 (Fld.other W343 (Fld.keep (Fld.keep Q316_3 K330 (ninS n317 nin0)) K337 (ninS n322 nin0)) (Or.inl n317)) (Or.inl n322)) (Or.inr (slot_ne (a0 := a0) (Or.inl (hwi hw 27 rfl)) (Or.inl (hwi hw 29 rfl)) (by decide) (t := .int) (t' := .int) (by decide) (by decide))))
  have F359 := (Arv.other (Arv.other V343 W348 nn316) W353 (Ne.symm n317))
  have F360 := (Arv.other V348 W353 (Ne.symm n322))
  have K361 : Keep h0 h353 [a] := (Keep.wr (Keep.wr (Keep.wr (Keep.trans (Keep.trans (Keep.trans K321 K316 (allS (Or.inl (List.mem_of_getElem? (i := 0) rfl)) all0)) K330 (allS (Or.inr b320) all0)) K337 (allS (Or.inr b325) all0)) W343 (Or.inr b320)) W348 (Or.inr b325)) W353 (Or.inl (List.mem_of_getElem? (i := 0) rfl)))
  exact endV X353 hx hlk hret (hb hby d6_76) e353 ⟨rfl, N353, ⟨bi316, bw316, _, _, K361, b320, b325, nn316, F355, F356, F357, F358, F359, F360⟩⟩ (by decide) (by decide)
set_option maxRecDepth 65536 in
set_option maxHeartbeats 40000000 in
theorem rm_ins2_2 {l : Launch} {Z : State} {a0 : Array Value} (hw : ∀ d ∈ tables_1, d.before a0 Z = true) (a ai aw : Addr) (ki kw : ClassId) (i0 i1 : Int32) (w0 w1 : Int64) (ix : Int32) (h0 : Heap) (O0 : Ext Z.heap h0) (f0 : Z.heap.size ≤ a) (E0 : Exa Z h0 a "com/example/libtbox/libtbox/core/SparseBitSet") (P0 : Fld Z h0 a "com/example/libtbox/libtbox/core/SparseBitSet" "indices" "[I" (.ref ai)) (P1 : Fld Z h0 a "com/example/libtbox/libtbox/core/SparseBitSet" "words" "[J" (.ref aw)) (P2 : Fld Z h0 a "com/example/libtbox/libtbox/core/SparseBitSet" "count" "I" (.int (2 : Int32))) (P3 : Fld Z h0 a "com/example/libtbox/libtbox/core/SparseBitSet" "lastFound" "I" (.int (0 : Int32))) (P4 : Arv Z h0 ai ki .int (2 : Int32) [(.int i0), (.int i1)] (.int 0)) (P5 : Arv Z h0 aw kw .long (2 : Int32) [(.long w0), (.long w1)] (.long 0)) (fi : Z.heap.size ≤ ai) (fw : Z.heap.size ≤ aw) (nai : a ≠ ai) (naw : a ≠ aw) (niw : ai ≠ aw)  :
    Con l (⟨"com/example/libtbox/libtbox/core/SparseBitSet", "insert", "(II)V"⟩ : MethodName) prog_51_method_19_code 3 none ({ frames := 3, cells := 2, slots := 8, locals := 47 } : Room) Z #[(.ref a), (.int (2 : Int32)), (.int ix)] h0 (fun v h L => v = none ∧ Fr Z.heap.size L ∧ ∃ (bi bw : Addr) (k1 k2 : ClassId), Keep h0 h [a] ∧ h0.size ≤ bi ∧ h0.size ≤ bw ∧ bi ≠ bw ∧ Fld Z h a "com/example/libtbox/libtbox/core/SparseBitSet" "indices" "[I" (.ref bi) ∧ Fld Z h a "com/example/libtbox/libtbox/core/SparseBitSet" "words" "[J" (.ref bw) ∧ Fld Z h a "com/example/libtbox/libtbox/core/SparseBitSet" "count" "I" (.int (3 : Int32)) ∧ Fld Z h a "com/example/libtbox/libtbox/core/SparseBitSet" "lastFound" "I" (.int (0 : Int32)) ∧ Arv Z h bi k1 .int (4 : Int32) [(.int i0), (.int i1), (.int ix), (.int (0 : Int32))] (.int 0) ∧ Arv Z h bw k2 .long (4 : Int32) [(.long w0), (.long w1), (.long (0 : Int64)), (.long (0 : Int64))] (.long 0)) := by
  refine Con.of (plainFor_of_name pn_0) (Ls := #[rv a, iv (2 : Int32), iv ix]) (fun m => efOf rfl) ?_
  intro p e s m below meth c T0 X0 hx hZ hby hml hown hnm hret hlk e0
  refine go (fun _ => XS.aloadN X0.here hx rfl (hb hby d6_0) rfl rfl) ?_
  refine go (fun _ => XS.aloadN X0.here hx rfl (hb hby d6_1) rfl rfl) ?_
  show Ends p e below s _ _ _ T0 (mkF m 2 #[rv a, iv (2 : Int32), iv ix] [(.ref a), (.ref a)])
  obtain ⟨T362, X362, e362, s362⟩ := getF X0 hx hZ hown (host := "") (Or.inl (hwi hw 28 rfl)) Via.refl e0 P2 (g := (mkF m 2 #[rv a, iv (2 : Int32), iv ix] [(.ref a), (.ref a)])) rfl rfl (hb hby d6_2)
  refine go s362 ?_
  show Ends p e below s _ _ _ T362 (mkF m 5 #[rv a, iv (2 : Int32), iv ix] [(.int (2 : Int32)), (.ref a)])
  refine go (fun _ => XT.iconstV X362.here hx rfl (1 : Int32) (hb hby d6_5) (by decide)) ?_
  refine go (fun _ => XS.iadd X362.here hx rfl (hb hby d6_6) rfl) ?_
  show Ends p e below s _ _ _ T362 (mkF m 7 #[rv a, iv (2 : Int32), iv ix] [(.int (3 : Int32)), (.ref a)])
  refine cPriv X362 hx hZ hown (by rw [hml]; rfl) e362 (hwi hw 34 rfl) (hwi hw 35 rfl) (hwi hw 36 rfl) (hwi hw 1 rfl) (hwi hw 2 rfl) (hwi hw 37 rfl) a E0 [(.int (3 : Int32))] [] rfl (rm_grow2 hw a ai aw ki kw i0 i1 w0 w1 _ O0 f0 E0 P0 P1 P2 P3 P4 P5 fi fw nai naw niw) (hb hby d6_7) rfl (lenOf pd_5 rfl) (by decide) (by decide) (Nat.le_of_ble_eq_true rfl) (by decide) (by decide) ?_
  rintro v363 T363 h363 L363 X363 e363 ⟨rfl, N363, ⟨bi363, bw363, k1363, k2363, K363, ga363, gb363, nn363, Q363_0, Q363_1, Q363_2, Q363_3, Q363_4, Q363_5⟩⟩
  have N363a := Fr.app (Fr.nil _) N363
  have n364 : a ≠ bi363 := Nat.ne_of_lt (Nat.lt_of_lt_of_le (E0.lt) ga363)
  have n365 : ai ≠ bi363 := Nat.ne_of_lt (Nat.lt_of_lt_of_le (P4.lt) ga363)
  have n366 : aw ≠ bi363 := Nat.ne_of_lt (Nat.lt_of_lt_of_le (P5.lt) ga363)
  have f367 : Z.heap.size ≤ bi363 := Nat.le_trans (O0).1 ga363
  have K368 : Keep h0 h0 [a] := (Keep.refl _ _)
  have b367 : h0.size ≤ bi363 := Nat.le_trans (K368).1 ga363
  have n369 : a ≠ bw363 := Nat.ne_of_lt (Nat.lt_of_lt_of_le (E0.lt) gb363)
  have n370 : ai ≠ bw363 := Nat.ne_of_lt (Nat.lt_of_lt_of_le (P4.lt) gb363)
  have n371 : aw ≠ bw363 := Nat.ne_of_lt (Nat.lt_of_lt_of_le (P5.lt) gb363)
  have f372 : Z.heap.size ≤ bw363 := Nat.le_trans (O0).1 gb363
  have b372 : h0.size ≤ bw363 := Nat.le_trans (K368).1 gb363
  have O373 : Ext Z.heap h363 := xk O0 K363 (allS f0 all0)
  show Ends p e below s _ _ _ T363 (mkF m 10 #[rv a, iv (2 : Int32), iv ix] [])
  refine go (fun _ => XS.aloadN X363.here hx rfl (hb hby d6_10) rfl rfl) ?_
  show Ends p e below s _ _ _ T363 (mkF m 11 #[rv a, iv (2 : Int32), iv ix] [(.ref a)])
  obtain ⟨T374, X374, e374, s374⟩ := getF X363 hx hZ hown (host := "") (Or.inl (hwi hw 11 rfl)) Via.refl e363 Q363_0 (g := (mkF m 11 #[rv a, iv (2 : Int32), iv ix] [(.ref a)])) rfl rfl (hb hby d6_11)
  refine go s374 ?_
  show Ends p e below s _ _ _ T374 (mkF m 14 #[rv a, iv (2 : Int32), iv ix] [(.ref bi363)])
  refine go (fun _ => XS.iloadN X374.here hx rfl (hb hby d6_14) rfl) ?_
  refine go (fun _ => XS.aloadN X374.here hx rfl (hb hby d6_15) rfl rfl) ?_
  show Ends p e below s _ _ _ T374 (mkF m 16 #[rv a, iv (2 : Int32), iv ix] [(.ref a), (.int (2 : Int32)), (.ref bi363)])
  obtain ⟨T375, X375, e375, s375⟩ := getF X374 hx hZ hown (host := "") (Or.inl (hwi hw 11 rfl)) Via.refl e374 Q363_0 (g := (mkF m 16 #[rv a, iv (2 : Int32), iv ix] [(.ref a), (.int (2 : Int32)), (.ref bi363)])) rfl rfl (hb hby d6_16)
  refine go s375 ?_
  show Ends p e below s _ _ _ T375 (mkF m 19 #[rv a, iv (2 : Int32), iv ix] [(.ref bi363), (.int (2 : Int32)), (.ref bi363)])
  refine go (fun _ => XS.iloadN X375.here hx rfl (hb hby d6_19) rfl) ?_
  refine go (fun _ => XT.iconstV X375.here hx rfl (1 : Int32) (hb hby d6_20) (by decide)) ?_
  refine go (fun _ => XS.iadd X375.here hx rfl (hb hby d6_21) rfl) ?_
  refine go (fun _ => XS.aloadN X375.here hx rfl (hb hby d6_22) rfl rfl) ?_
  show Ends p e below s _ _ _ T375 (mkF m 23 #[rv a, iv (2 : Int32), iv ix] [(.ref a), (.int (3 : Int32)), (.ref bi363), (.int (2 : Int32)), (.ref bi363)])
  obtain ⟨T376, X376, e376, s376⟩ := getF X375 hx hZ hown (host := "") (Or.inl (hwi hw 28 rfl)) Via.refl e375 Q363_2 (g := (mkF m 23 #[rv a, iv (2 : Int32), iv ix] [(.ref a), (.int (3 : Int32)), (.ref bi363), (.int (2 : Int32)), (.ref bi363)])) rfl rfl (hb hby d6_23)
  refine go s376 ?_
  show Ends p e below s _ _ _ T376 (mkF m 26 #[rv a, iv (2 : Int32), iv ix] [(.int (2 : Int32)), (.int (3 : Int32)), (.ref bi363), (.int (2 : Int32)), (.ref bi363)])
  refine go (fun _ => XS.iloadN X376.here hx rfl (hb hby d6_26) rfl) ?_
  refine go (fun _ => XS.isub X376.here hx rfl (hb hby d6_27) rfl) ?_
  show Ends p e below s _ _ _ T376 (mkF m 28 #[rv a, iv (2 : Int32), iv ix] [(.int (0 : Int32)), (.int (3 : Int32)), (.ref bi363), (.int (2 : Int32)), (.ref bi363)])
  obtain ⟨T377, h377, L377, X377, e377, N377, K377, V377, s377⟩ := cpA X376 hx hZ hown (hwi hw 58 rfl) (hwi hw 53 rfl) (hwi hw 51 rfl) (hwi hw 52 rfl) e376 Q363_4 Q363_4 (us := []) (Or.inl ⟨rfl, rfl⟩) (sp := (2 : Int32)) (dp := (3 : Int32)) (nn := (0 : Int32)) (by decide) (by decide) (by decide) (by decide) (by decide) rfl (Nat.le_of_ble_eq_true rfl) N363a f367 (g := (mkF m 28 #[rv a, iv (2 : Int32), iv ix] [(.int (0 : Int32)), (.int (3 : Int32)), (.ref bi363), (.int (2 : Int32)), (.ref bi363)])) rfl (by rw [hml]; rfl) rfl (hb hby d6_28) (by decide) (W := 0) (by show 2 * 0 + _ ≤ _; exact Nat.le_of_eq rfl) (by decide)
  have O378 : Ext Z.heap h377 := xk O373 K377 (allS f367 all0)
  have V377l : Arv Z h377 bi363 k1363 .int (4 : Int32) [(.int i0), (.int i1), (.int (0 : Int32)), (.int (0 : Int32))] (.int 0) := V377
  refine go s377 ?_
  show Ends p e below s _ _ _ T377 (mkF m 31 #[rv a, iv (2 : Int32), iv ix] [])
  refine go (fun _ => XS.aloadN X377.here hx rfl (hb hby d6_31) rfl rfl) ?_
  show Ends p e below s _ _ _ T377 (mkF m 32 #[rv a, iv (2 : Int32), iv ix] [(.ref a)])
  have F379 := (Fld.keep Q363_1 K377 (ninS n364 nin0))
  obtain ⟨T380, X380, e380, s380⟩ := getF X377 hx hZ hown (host := "") (Or.inl (hwi hw 15 rfl)) Via.refl e377 F379 (g := (mkF m 32 #[rv a, iv (2 : Int32), iv ix] [(.ref a)])) rfl rfl (hb hby d6_32)
  refine go s380 ?_
  show Ends p e below s _ _ _ T380 (mkF m 35 #[rv a, iv (2 : Int32), iv ix] [(.ref bw363)])
  refine go (fun _ => XS.iloadN X380.here hx rfl (hb hby d6_35) rfl) ?_
  refine go (fun _ => XS.aloadN X380.here hx rfl (hb hby d6_36) rfl rfl) ?_
  show Ends p e below s _ _ _ T380 (mkF m 37 #[rv a, iv (2 : Int32), iv ix] [(.ref a), (.int (2 : Int32)), (.ref bw363)])
  obtain ⟨T381, X381, e381, s381⟩ := getF X380 hx hZ hown (host := "") (Or.inl (hwi hw 15 rfl)) Via.refl e380 F379 (g := (mkF m 37 #[rv a, iv (2 : Int32), iv ix] [(.ref a), (.int (2 : Int32)), (.ref bw363)])) rfl rfl (hb hby d6_37)
  refine go s381 ?_
  show Ends p e below s _ _ _ T381 (mkF m 40 #[rv a, iv (2 : Int32), iv ix] [(.ref bw363), (.int (2 : Int32)), (.ref bw363)])
  refine go (fun _ => XS.iloadN X381.here hx rfl (hb hby d6_40) rfl) ?_
  refine go (fun _ => XT.iconstV X381.here hx rfl (1 : Int32) (hb hby d6_41) (by decide)) ?_
  refine go (fun _ => XS.iadd X381.here hx rfl (hb hby d6_42) rfl) ?_
  refine go (fun _ => XS.aloadN X381.here hx rfl (hb hby d6_43) rfl rfl) ?_
  show Ends p e below s _ _ _ T381 (mkF m 44 #[rv a, iv (2 : Int32), iv ix] [(.ref a), (.int (3 : Int32)), (.ref bw363), (.int (2 : Int32)), (.ref bw363)])
  have F382 := (Fld.keep Q363_2 K377 (ninS n364 nin0))
  obtain ⟨T383, X383, e383, s383⟩ := getF X381 hx hZ hown (host := "") (Or.inl (hwi hw 28 rfl)) Via.refl e381 F382 (g := (mkF m 44 #[rv a, iv (2 : Int32), iv ix] [(.ref a), (.int (3 : Int32)), (.ref bw363), (.int (2 : Int32)), (.ref bw363)])) rfl rfl (hb hby d6_44)
  refine go s383 ?_
  show Ends p e below s _ _ _ T383 (mkF m 47 #[rv a, iv (2 : Int32), iv ix] [(.int (2 : Int32)), (.int (3 : Int32)), (.ref bw363), (.int (2 : Int32)), (.ref bw363)])
  refine go (fun _ => XS.iloadN X383.here hx rfl (hb hby d6_47) rfl) ?_
  refine go (fun _ => XS.isub X383.here hx rfl (hb hby d6_48) rfl) ?_
  show Ends p e below s _ _ _ T383 (mkF m 49 #[rv a, iv (2 : Int32), iv ix] [(.int (0 : Int32)), (.int (3 : Int32)), (.ref bw363), (.int (2 : Int32)), (.ref bw363)])
  have F385 := (Arv.keep Q363_5 K377 (ninS (Ne.symm nn363) nin0))
  obtain ⟨T384, h384, L384, X384, e384, N384, K384, V384, s384⟩ := cpA X383 hx hZ hown (hwi hw 58 rfl) (hwi hw 53 rfl) (hwi hw 51 rfl) (hwi hw 52 rfl) e383 F385 F385 (us := []) (Or.inl ⟨rfl, rfl⟩) (sp := (2 : Int32)) (dp := (3 : Int32)) (nn := (0 : Int32)) (by decide) (by decide) (by decide) (by decide) (by decide) rfl (Nat.le_of_ble_eq_true rfl) N377 f372 (g := (mkF m 49 #[rv a, iv (2 : Int32), iv ix] [(.int (0 : Int32)), (.int (3 : Int32)), (.ref bw363), (.int (2 : Int32)), (.ref bw363)])) rfl (by rw [hml]; rfl) rfl (hb hby d6_49) (by decide) (W := 0) (by show 2 * 0 + _ ≤ _; exact Nat.le_of_eq rfl) (by decide)
  have O386 : Ext Z.heap h384 := xk O378 K384 (allS f372 all0)
  have V384l : Arv Z h384 bw363 k2363 .long (4 : Int32) [(.long w0), (.long w1), (.long (0 : Int64)), (.long (0 : Int64))] (.long 0) := V384
  refine go s384 ?_
  show Ends p e below s _ _ _ T384 (mkF m 52 #[rv a, iv (2 : Int32), iv ix] [])
  refine go (fun _ => XS.aloadN X384.here hx rfl (hb hby d6_52) rfl rfl) ?_
  show Ends p e below s _ _ _ T384 (mkF m 53 #[rv a, iv (2 : Int32), iv ix] [(.ref a)])
  have F387 := (Fld.keep (Fld.keep Q363_0 K377 (ninS n364 nin0)) K384 (ninS n369 nin0))
  obtain ⟨T388, X388, e388, s388⟩ := getF X384 hx hZ hown (host := "") (Or.inl (hwi hw 11 rfl)) Via.refl e384 F387 (g := (mkF m 53 #[rv a, iv (2 : Int32), iv ix] [(.ref a)])) rfl rfl (hb hby d6_53)
  refine go s388 ?_
  show Ends p e below s _ _ _ T388 (mkF m 56 #[rv a, iv (2 : Int32), iv ix] [(.ref bi363)])
  refine go (fun _ => XS.iloadN X388.here hx rfl (hb hby d6_56) rfl) ?_
  refine go (fun _ => XS.iloadN X388.here hx rfl (hb hby d6_57) rfl) ?_
  show Ends p e below s _ _ _ T388 (mkF m 58 #[rv a, iv (2 : Int32), iv ix] [(.int ix), (.int (2 : Int32)), (.ref bi363)])
  have F389 := (Arv.keep V377l K384 (ninS nn363 nin0))
  obtain ⟨cl390, A390, q390, S390, M390, H390, G390⟩ := id F389
  obtain ⟨T390, h390, X390, e390, W390, s390⟩ := stI X388 hx hZ e388 A390 (j := (2 : Int32)) (inb_of S390 (by decide)) (g := (mkF m 58 #[rv a, iv (2 : Int32), iv ix] [(.int ix), (.int (2 : Int32)), (.ref bi363)])) rfl rfl (hb hby d6_58)
  have N390 := Fr.snoc X390 N384 f367
  have O391 : Ext Z.heap h390 := xw O386 W390 f367
  have V390 : Arv Z h390 bi363 k1363 .int (4 : Int32) [(.int i0), (.int i1), (.int ix), (.int (0 : Int32))] (.int 0) := Arv.set A390 q390 S390 M390 H390 G390 rfl W390 2 (by decide) (Nat.le_of_ble_eq_true rfl)
  refine go s390 ?_
  show Ends p e below s _ _ _ T390 (mkF m 59 #[rv a, iv (2 : Int32), iv ix] [])
  refine go (fun _ => XS.aloadN X390.here hx rfl (hb hby d6_59) rfl rfl) ?_
  show Ends p e below s _ _ _ T390 (mkF m 60 #[rv a, iv (2 : Int32), iv ix] [(.ref a)])
  have F392 := (Fld.other W390 (Fld.keep F379 K384 (ninS n369 nin0)) (Or.inl n364))
  obtain ⟨T393, X393, e393, s393⟩ := getF X390 hx hZ hown (host := "") (Or.inl (hwi hw 15 rfl)) Via.refl e390 F392 (g := (mkF m 60 #[rv a, iv (2 : Int32), iv ix] [(.ref a)])) rfl rfl (hb hby d6_60)
  refine go s393 ?_
  show Ends p e below s _ _ _ T393 (mkF m 63 #[rv a, iv (2 : Int32), iv ix] [(.ref bw363)])
  refine go (fun _ => XS.iloadN X393.here hx rfl (hb hby d6_63) rfl) ?_
  refine go (fun _ => XT.lconstV X393.here hx rfl (0 : Int64) (hb hby d6_64) (by decide)) ?_
  show Ends p e below s _ _ _ T393 (mkF m 65 #[rv a, iv (2 : Int32), iv ix] [(.long (0 : Int64)), (.int (2 : Int32)), (.ref bw363)])
  have F394 := (Arv.other V384l W390 (Ne.symm nn363))
  obtain ⟨cl395, A395, q395, S395, M395, H395, G395⟩ := id F394
  obtain ⟨T395, h395, X395, e395, W395, s395⟩ := stJ X393 hx hZ e393 A395 (j := (2 : Int32)) (inb_of S395 (by decide)) (g := (mkF m 65 #[rv a, iv (2 : Int32), iv ix] [(.long (0 : Int64)), (.int (2 : Int32)), (.ref bw363)])) rfl rfl (hb hby d6_65)
  have N395 := Fr.snoc X395 N390 f372
  have O396 : Ext Z.heap h395 := xw O391 W395 f372
  have V395 : Arv Z h395 bw363 k2363 .long (4 : Int32) [(.long w0), (.long w1), (.long (0 : Int64)), (.long (0 : Int64))] (.long 0) := Arv.set A395 q395 S395 M395 H395 G395 rfl W395 2 (by decide) (Nat.le_of_ble_eq_true rfl)
  refine go s395 ?_
  show Ends p e below s _ _ _ T395 (mkF m 66 #[rv a, iv (2 : Int32), iv ix] [])
  refine go (fun _ => XS.aloadN X395.here hx rfl (hb hby d6_66) rfl rfl) ?_
  refine go (fun _ => XS.dup X395.here hx rfl (hb hby d6_67) rfl rfl) ?_
  show Ends p e below s _ _ _ T395 (mkF m 68 #[rv a, iv (2 : Int32), iv ix] [(.ref a), (.ref a)])
  have F397 := (Fld.other W395 (Fld.other W390 (Fld.keep F382 K384 (ninS n369 nin0)) (Or.inl n364)) (Or.inl n369))
  obtain ⟨T398, X398, e398, s398⟩ := getF X395 hx hZ hown (host := "") (Or.inl (hwi hw 28 rfl)) Via.refl e395 F397 (g := (mkF m 68 #[rv a, iv (2 : Int32), iv ix] [(.ref a), (.ref a)])) rfl rfl (hb hby d6_68)
  refine go s398 ?_
  show Ends p e below s _ _ _ T398 (mkF m 71 #[rv a, iv (2 : Int32), iv ix] [(.int (2 : Int32)), (.ref a)])
  refine go (fun _ => XT.iconstV X398.here hx rfl (1 : Int32) (hb hby d6_71) (by decide)) ?_
  refine go (fun _ => XS.iadd X398.here hx rfl (hb hby d6_72) rfl) ?_
  show Ends p e below s _ _ _ T398 (mkF m 73 #[rv a, iv (2 : Int32), iv ix] [(.int (3 : Int32)), (.ref a)])
  have F399 := (Exa.wr W395 (Exa.wr W390 (Exa.keep (Exa.keep (Exa.keep E0 K363) K377) K384)))
  obtain ⟨T400, h400, X400, e400, W400, s400⟩ := putF X398 hx hZ hown (host := "") (Or.inl (hwi hw 28 rfl)) Via.refl e398 F397 F399 (Or.inl (hwi hw 29 rfl)) (hwi hw 1 rfl) (ty := .int) (by decide) rfl rfl (g := (mkF m 73 #[rv a, iv (2 : Int32), iv ix] [(.int (3 : Int32)), (.ref a)])) rfl rfl (hb hby d6_73)
  have N400 := Fr.snoc X400 N395 f0
  have O401 : Ext Z.heap h400 := xw O396 W400 f0
  refine go s400 ?_
  show Ends p e below s _ _ _ T400 (mkF m 76 #[rv a, iv (2 : Int32), iv ix] [])
  have F402 := (Fld.other W400 (Fld.other W395 (Fld.other W390 F387 (Or.inl n364)) (Or.inl n369)) (Or.inr (slot_ne (a0 := a0) (Or.inl (hwi hw 12 rfl)) (Or.inl (hwi hw 29 rfl)) (by decide) (t := (.array .int)) (t' := .int) (by decide) (by decide))))
  have F403 := (Fld.other W400 (Fld.other W395 F392 (Or.inl n369)) (Or.inr (slot_ne (a0 := a0) (Or.inl (hwi hw 16 rfl)) (Or.inl (hwi hw 29 rfl)) (by decide) (t := (.array .long)) (t' := .int) (by decide) (by decide))))
  have F404 := (Fld.same W400 F397)
  have F405 := (Fld.other W400 (Fld.other W395 (Fld.other W390 (Fld.keep (Fld.keep Q363_3 K377 (ninS n364 nin0)) K384 (ninS n369 nin0)) (Or.inl n364)) (Or.inl n369)) (Or.inr (slot_ne (a0 := a0) (Or.inl (hwi hw 27 rfl)) (Or.inl (hwi hw 29 rfl)) (by decide) (t := .int) (t' := .int) (by decide) (by decide))))
  have F406 := (Arv.other (Arv.other V390 W395 nn363) W400 (Ne.symm n364))
  have F407 := (Arv.other V395 W400 (Ne.symm n369))
  have K408 : Keep h0 h400 [a] := (Keep.wr (Keep.wr (Keep.wr (Keep.trans (Keep.trans (Keep.trans K368 K363 (allS (Or.inl (List.mem_of_getElem? (i := 0) rfl)) all0)) K377 (allS (Or.inr b367) all0)) K384 (allS (Or.inr b372) all0)) W390 (Or.inr b367)) W395 (Or.inr b372)) W400 (Or.inl (List.mem_of_getElem? (i := 0) rfl)))
  exact endV X400 hx hlk hret (hb hby d6_76) e400 ⟨rfl, N400, ⟨bi363, bw363, _, _, K408, b367, b372, nn363, F402, F403, F404, F405, F406, F407⟩⟩ (by decide) (by decide)
set_option maxRecDepth 65536 in
set_option maxHeartbeats 40000000 in
theorem rm_pos0 {l : Launch} {Z : State} {a0 : Array Value} (hw : ∀ d ∈ tables_1, d.before a0 Z = true) (a ai aw : Addr) (ki kw : ClassId)  (ix : Int32) (h0 : Heap) (O0 : Ext Z.heap h0) (f0 : Z.heap.size ≤ a) (E0 : Exa Z h0 a "com/example/libtbox/libtbox/core/SparseBitSet") (P0 : Fld Z h0 a "com/example/libtbox/libtbox/core/SparseBitSet" "indices" "[I" (.ref ai)) (P1 : Fld Z h0 a "com/example/libtbox/libtbox/core/SparseBitSet" "words" "[J" (.ref aw)) (P2 : Fld Z h0 a "com/example/libtbox/libtbox/core/SparseBitSet" "count" "I" (.int (0 : Int32))) (P3 : Fld Z h0 a "com/example/libtbox/libtbox/core/SparseBitSet" "lastFound" "I" (.int (0 : Int32))) (P4 : Arv Z h0 ai ki .int (0 : Int32) [] (.int 0)) (P5 : Arv Z h0 aw kw .long (0 : Int32) [] (.long 0)) (nai : a ≠ ai) (naw : a ≠ aw)  :
    Con l (⟨"com/example/libtbox/libtbox/core/SparseBitSet", "position", "(I)I"⟩ : MethodName) prog_51_method_18_code 4 (some .int) ({ frames := 0, cells := 0, slots := 0, locals := 0 } : Room) Z #[(.ref a), (.int ix)] h0 (fun v h L => (v = some (.int (-1 : Int32)) ∧ Fr Z.heap.size L ∧ h0 = h)) := by
  refine Con.of (plainFor_of_name pn_0) (Ls := #[rv a, iv ix, .unset, .unset]) (fun m => efOf rfl) ?_
  intro p e s m below meth c T0 X0 hx hZ hby hml hown hnm hret hlk e0
  refine go (fun _ => XS.aloadN X0.here hx rfl (hb hby d7_0) rfl rfl) ?_
  show Ends p e below s _ _ _ T0 (mkF m 1 #[rv a, iv ix, .unset, .unset] [(.ref a)])
  obtain ⟨T409, X409, e409, s409⟩ := getF X0 hx hZ hown (host := "") (Or.inl (hwi hw 26 rfl)) Via.refl e0 P3 (g := (mkF m 1 #[rv a, iv ix, .unset, .unset] [(.ref a)])) rfl rfl (hb hby d7_1)
  refine go s409 ?_
  show Ends p e below s _ _ _ T409 (mkF m 4 #[rv a, iv ix, .unset, .unset] [(.int (0 : Int32))])
  refine go (fun _ => XS.istoreN X409.here hx rfl (hb hby d7_4) rfl (l' := #[rv a, iv ix, iv (0 : Int32), .unset]) rfl) ?_
  refine go (fun _ => XS.iloadN X409.here hx rfl (hb hby d7_5) rfl) ?_
  refine go (fun _ => XS.aloadN X409.here hx rfl (hb hby d7_6) rfl rfl) ?_
  show Ends p e below s _ _ _ T409 (mkF m 7 #[rv a, iv ix, iv (0 : Int32), .unset] [(.ref a), (.int (0 : Int32))])
  obtain ⟨T410, X410, e410, s410⟩ := getF X409 hx hZ hown (host := "") (Or.inl (hwi hw 28 rfl)) Via.refl e409 P2 (g := (mkF m 7 #[rv a, iv ix, iv (0 : Int32), .unset] [(.ref a), (.int (0 : Int32))])) rfl rfl (hb hby d7_7)
  refine go s410 ?_
  show Ends p e below s _ _ _ T410 (mkF m 10 #[rv a, iv ix, iv (0 : Int32), .unset] [(.int (0 : Int32)), (.int (0 : Int32))])
  refine go (fun _ => XS.icmpYes X410.here hx rfl (pc0 := 10) (pc' := 82) rfl (hb hby d7_10) rfl (XT.ii_ge_t ((by decide) : ¬ ((0 : Int32) < (0 : Int32)))) (by decide) (by decide)) ?_
  show Ends p e below s _ _ _ T410 (mkF m 82 #[rv a, iv ix, iv (0 : Int32), .unset] [])
  refine go (fun _ => XS.aloadN X410.here hx rfl (hb hby d7_82) rfl rfl) ?_
  show Ends p e below s _ _ _ T410 (mkF m 83 #[rv a, iv ix, iv (0 : Int32), .unset] [(.ref a)])
  obtain ⟨T411, X411, e411, s411⟩ := getF X410 hx hZ hown (host := "") (Or.inl (hwi hw 28 rfl)) Via.refl e410 P2 (g := (mkF m 83 #[rv a, iv ix, iv (0 : Int32), .unset] [(.ref a)])) rfl rfl (hb hby d7_83)
  refine go s411 ?_
  show Ends p e below s _ _ _ T411 (mkF m 86 #[rv a, iv ix, iv (0 : Int32), .unset] [(.int (0 : Int32))])
  refine go (fun _ => XS.ifYes X411.here hx rfl (pc0 := 86) (pc' := 99) rfl (hb hby d7_86) rfl (XT.i0_eq_t ((by decide) : (0 : Int32) = (0 : Int32))) (by decide) (by decide)) ?_
  show Ends p e below s _ _ _ T411 (mkF m 99 #[rv a, iv ix, iv (0 : Int32), .unset] [])
  refine go (fun _ => XT.iconstV X411.here hx rfl (-1 : Int32) (hb hby d7_99) (by decide)) ?_
  show Ends p e below s _ _ _ T411 (mkF m 100 #[rv a, iv ix, iv (0 : Int32), .unset] [(.int (-1 : Int32))])
  exact endI X411 hx hlk hret (hb hby d7_100) e411 ⟨rfl, (Fr.nil _), rfl⟩ (by decide) (by decide)
set_option maxRecDepth 65536 in
set_option maxHeartbeats 40000000 in
theorem rm_pos1 {l : Launch} {Z : State} {a0 : Array Value} (hw : ∀ d ∈ tables_1, d.before a0 Z = true) (a ai aw : Addr) (ki kw : ClassId) (i0 : Int32) (w0 : Int64) (ix : Int32) (h0 : Heap) (O0 : Ext Z.heap h0) (f0 : Z.heap.size ≤ a) (E0 : Exa Z h0 a "com/example/libtbox/libtbox/core/SparseBitSet") (P0 : Fld Z h0 a "com/example/libtbox/libtbox/core/SparseBitSet" "indices" "[I" (.ref ai)) (P1 : Fld Z h0 a "com/example/libtbox/libtbox/core/SparseBitSet" "words" "[J" (.ref aw)) (P2 : Fld Z h0 a "com/example/libtbox/libtbox/core/SparseBitSet" "count" "I" (.int (1 : Int32))) (P3 : Fld Z h0 a "com/example/libtbox/libtbox/core/SparseBitSet" "lastFound" "I" (.int (0 : Int32))) (P4 : Arv Z h0 ai ki .int (2 : Int32) [(.int i0), (.int (0 : Int32))] (.int 0)) (P5 : Arv Z h0 aw kw .long (2 : Int32) [(.long w0), (.long (0 : Int64))] (.long 0)) (fi : Z.heap.size ≤ ai) (fw : Z.heap.size ≤ aw) (nai : a ≠ ai) (naw : a ≠ aw) (niw : ai ≠ aw)  :
    Con l (⟨"com/example/libtbox/libtbox/core/SparseBitSet", "position", "(I)I"⟩ : MethodName) prog_51_method_18_code 4 (some .int) ({ frames := 0, cells := 0, slots := 0, locals := 0 } : Room) Z #[(.ref a), (.int ix)] h0 (fun v h L => (v = some (.int (-1 : Int32)) ∧ Fr Z.heap.size L ∧ (ix < i0) ∧ h0 = h) ∨ (v = some (.int (0 : Int32)) ∧ Fr Z.heap.size L ∧ (i0 = ix) ∧ h0 = h) ∨ (v = some (.int (-2 : Int32)) ∧ Fr Z.heap.size L ∧ (i0 < ix) ∧ h0 = h)) := by
  refine Con.of (plainFor_of_name pn_0) (Ls := #[rv a, iv ix, .unset, .unset]) (fun m => efOf rfl) ?_
  intro p e s m below meth c T0 X0 hx hZ hby hml hown hnm hret hlk e0
  refine go (fun _ => XS.aloadN X0.here hx rfl (hb hby d7_0) rfl rfl) ?_
  show Ends p e below s _ _ _ T0 (mkF m 1 #[rv a, iv ix, .unset, .unset] [(.ref a)])
  obtain ⟨T412, X412, e412, s412⟩ := getF X0 hx hZ hown (host := "") (Or.inl (hwi hw 26 rfl)) Via.refl e0 P3 (g := (mkF m 1 #[rv a, iv ix, .unset, .unset] [(.ref a)])) rfl rfl (hb hby d7_1)
  refine go s412 ?_
  show Ends p e below s _ _ _ T412 (mkF m 4 #[rv a, iv ix, .unset, .unset] [(.int (0 : Int32))])
  refine go (fun _ => XS.istoreN X412.here hx rfl (hb hby d7_4) rfl (l' := #[rv a, iv ix, iv (0 : Int32), .unset]) rfl) ?_
  refine go (fun _ => XS.iloadN X412.here hx rfl (hb hby d7_5) rfl) ?_
  refine go (fun _ => XS.aloadN X412.here hx rfl (hb hby d7_6) rfl rfl) ?_
  show Ends p e below s _ _ _ T412 (mkF m 7 #[rv a, iv ix, iv (0 : Int32), .unset] [(.ref a), (.int (0 : Int32))])
  obtain ⟨T413, X413, e413, s413⟩ := getF X412 hx hZ hown (host := "") (Or.inl (hwi hw 28 rfl)) Via.refl e412 P2 (g := (mkF m 7 #[rv a, iv ix, iv (0 : Int32), .unset] [(.ref a), (.int (0 : Int32))])) rfl rfl (hb hby d7_7)
  refine go s413 ?_
  show Ends p e below s _ _ _ T413 (mkF m 10 #[rv a, iv ix, iv (0 : Int32), .unset] [(.int (1 : Int32)), (.int (0 : Int32))])
  refine go (fun _ => XS.icmpNo X413.here hx rfl (hb hby d7_10) rfl (XT.ii_ge_f ((by decide) : (0 : Int32) < (1 : Int32)))) ?_
  show Ends p e below s _ _ _ T413 (mkF m 13 #[rv a, iv ix, iv (0 : Int32), .unset] [])
  refine go (fun _ => XS.aloadN X413.here hx rfl (hb hby d7_13) rfl rfl) ?_
  show Ends p e below s _ _ _ T413 (mkF m 14 #[rv a, iv ix, iv (0 : Int32), .unset] [(.ref a)])
  obtain ⟨T414, X414, e414, s414⟩ := getF X413 hx hZ hown (host := "") (Or.inl (hwi hw 11 rfl)) Via.refl e413 P0 (g := (mkF m 14 #[rv a, iv ix, iv (0 : Int32), .unset] [(.ref a)])) rfl rfl (hb hby d7_14)
  refine go s414 ?_
  show Ends p e below s _ _ _ T414 (mkF m 17 #[rv a, iv ix, iv (0 : Int32), .unset] [(.ref ai)])
  refine go (fun _ => XS.iloadN X414.here hx rfl (hb hby d7_17) rfl) ?_
  show Ends p e below s _ _ _ T414 (mkF m 18 #[rv a, iv ix, iv (0 : Int32), .unset] [(.int (0 : Int32)), (.ref ai)])
  obtain ⟨cl415, A415, -, S415, M415, H415, -⟩ := id P4
  have B415 := inb_of S415 (j := (0 : Int32)) (by decide)
  refine go (fun _ => X414.iaload hx (j := (0 : Int32)) (v := (.int i0)) (by rw [e414]; exact A415.1) (State.isArrayOf_alike hZ.alike A415.2.1) A415.2.2 B415 (H415.at B415 rfl) (g := (mkF m 18 #[rv a, iv ix, iv (0 : Int32), .unset] [(.int (0 : Int32)), (.ref ai)])) rfl rfl (hb hby d7_18) _) ?_
  show Ends p e below s _ _ _ T414 (mkF m 19 #[rv a, iv ix, iv (0 : Int32), .unset] [(.int i0)])
  refine go (fun _ => XS.iloadN X414.here hx rfl (hb hby d7_19) rfl) ?_
  show Ends p e below s _ _ _ T414 (mkF m 20 #[rv a, iv ix, iv (0 : Int32), .unset] [(.int ix), (.int i0)])
  by_cases c20_416 : ix < i0
  · refine go (fun _ => XS.icmpYes X414.here hx rfl (pc0 := 20) (pc' := 82) rfl (hb hby d7_20) rfl (XT.ii_gt_t c20_416) (by decide) (by decide)) ?_
    show Ends p e below s _ _ _ T414 (mkF m 82 #[rv a, iv ix, iv (0 : Int32), .unset] [])
    refine go (fun _ => XS.aloadN X414.here hx rfl (hb hby d7_82) rfl rfl) ?_
    show Ends p e below s _ _ _ T414 (mkF m 83 #[rv a, iv ix, iv (0 : Int32), .unset] [(.ref a)])
    obtain ⟨T417, X417, e417, s417⟩ := getF X414 hx hZ hown (host := "") (Or.inl (hwi hw 28 rfl)) Via.refl e414 P2 (g := (mkF m 83 #[rv a, iv ix, iv (0 : Int32), .unset] [(.ref a)])) rfl rfl (hb hby d7_83)
    refine go s417 ?_
    show Ends p e below s _ _ _ T417 (mkF m 86 #[rv a, iv ix, iv (0 : Int32), .unset] [(.int (1 : Int32))])
    refine go (fun _ => XS.ifNo X417.here hx rfl (hb hby d7_86) rfl (XT.i0_eq_f ((by decide) : ¬ ((1 : Int32) = (0 : Int32))))) ?_
    show Ends p e below s _ _ _ T417 (mkF m 89 #[rv a, iv ix, iv (0 : Int32), .unset] [])
    refine go (fun _ => XS.iloadN X417.here hx rfl (hb hby d7_89) rfl) ?_
    refine go (fun _ => XS.aloadN X417.here hx rfl (hb hby d7_90) rfl rfl) ?_
    show Ends p e below s _ _ _ T417 (mkF m 91 #[rv a, iv ix, iv (0 : Int32), .unset] [(.ref a), (.int ix)])
    obtain ⟨T418, X418, e418, s418⟩ := getF X417 hx hZ hown (host := "") (Or.inl (hwi hw 11 rfl)) Via.refl e417 P0 (g := (mkF m 91 #[rv a, iv ix, iv (0 : Int32), .unset] [(.ref a), (.int ix)])) rfl rfl (hb hby d7_91)
    refine go s418 ?_
    show Ends p e below s _ _ _ T418 (mkF m 94 #[rv a, iv ix, iv (0 : Int32), .unset] [(.ref ai), (.int ix)])
    refine go (fun _ => XT.iconstV X418.here hx rfl (0 : Int32) (hb hby d7_94) (by decide)) ?_
    show Ends p e below s _ _ _ T418 (mkF m 95 #[rv a, iv ix, iv (0 : Int32), .unset] [(.int (0 : Int32)), (.ref ai), (.int ix)])
    obtain ⟨cl419, A419, -, S419, M419, H419, -⟩ := id P4
    have B419 := inb_of S419 (j := (0 : Int32)) (by decide)
    refine go (fun _ => X418.iaload hx (j := (0 : Int32)) (v := (.int i0)) (by rw [e418]; exact A419.1) (State.isArrayOf_alike hZ.alike A419.2.1) A419.2.2 B419 (H419.at B419 rfl) (g := (mkF m 95 #[rv a, iv ix, iv (0 : Int32), .unset] [(.int (0 : Int32)), (.ref ai), (.int ix)])) rfl rfl (hb hby d7_95) _) ?_
    show Ends p e below s _ _ _ T418 (mkF m 96 #[rv a, iv ix, iv (0 : Int32), .unset] [(.int i0), (.int ix)])
    refine go (fun _ => XS.icmpNo X418.here hx rfl (hb hby d7_96) rfl (XT.ii_ge_f c20_416)) ?_
    show Ends p e below s _ _ _ T418 (mkF m 99 #[rv a, iv ix, iv (0 : Int32), .unset] [])
    refine go (fun _ => XT.iconstV X418.here hx rfl (-1 : Int32) (hb hby d7_99) (by decide)) ?_
    show Ends p e below s _ _ _ T418 (mkF m 100 #[rv a, iv ix, iv (0 : Int32), .unset] [(.int (-1 : Int32))])
    exact endI X418 hx hlk hret (hb hby d7_100) e418 (Or.inl ⟨rfl, (Fr.nil _), c20_416, rfl⟩) (by decide) (by decide)
  · refine go (fun _ => XS.icmpNo X414.here hx rfl (hb hby d7_20) rfl (XT.ii_gt_f c20_416)) ?_
    show Ends p e below s _ _ _ T414 (mkF m 23 #[rv a, iv ix, iv (0 : Int32), .unset] [])
    refine go (fun _ => XS.iloadN X414.here hx rfl (hb hby d7_23) rfl) ?_
    refine go (fun _ => XT.iconstV X414.here hx rfl (1 : Int32) (hb hby d7_24) (by decide)) ?_
    refine go (fun _ => XS.iadd X414.here hx rfl (hb hby d7_25) rfl) ?_
    refine go (fun _ => XS.istoreN X414.here hx rfl (hb hby d7_26) rfl (l' := #[rv a, iv ix, iv (0 : Int32), iv (1 : Int32)]) rfl) ?_
    refine go (fun _ => XS.aloadN X414.here hx rfl (hb hby d7_27) rfl rfl) ?_
    show Ends p e below s _ _ _ T414 (mkF m 28 #[rv a, iv ix, iv (0 : Int32), iv (1 : Int32)] [(.ref a)])
    obtain ⟨T420, X420, e420, s420⟩ := getF X414 hx hZ hown (host := "") (Or.inl (hwi hw 11 rfl)) Via.refl e414 P0 (g := (mkF m 28 #[rv a, iv ix, iv (0 : Int32), iv (1 : Int32)] [(.ref a)])) rfl rfl (hb hby d7_28)
    refine go s420 ?_
    show Ends p e below s _ _ _ T420 (mkF m 31 #[rv a, iv ix, iv (0 : Int32), iv (1 : Int32)] [(.ref ai)])
    refine go (fun _ => XS.iloadN X420.here hx rfl (hb hby d7_31) rfl) ?_
    show Ends p e below s _ _ _ T420 (mkF m 32 #[rv a, iv ix, iv (0 : Int32), iv (1 : Int32)] [(.int (0 : Int32)), (.ref ai)])
    obtain ⟨cl421, A421, -, S421, M421, H421, -⟩ := id P4
    have B421 := inb_of S421 (j := (0 : Int32)) (by decide)
    refine go (fun _ => X420.iaload hx (j := (0 : Int32)) (v := (.int i0)) (by rw [e420]; exact A421.1) (State.isArrayOf_alike hZ.alike A421.2.1) A421.2.2 B421 (H421.at B421 rfl) (g := (mkF m 32 #[rv a, iv ix, iv (0 : Int32), iv (1 : Int32)] [(.int (0 : Int32)), (.ref ai)])) rfl rfl (hb hby d7_32) _) ?_
    show Ends p e below s _ _ _ T420 (mkF m 33 #[rv a, iv ix, iv (0 : Int32), iv (1 : Int32)] [(.int i0)])
    refine go (fun _ => XS.iloadN X420.here hx rfl (hb hby d7_33) rfl) ?_
    show Ends p e below s _ _ _ T420 (mkF m 34 #[rv a, iv ix, iv (0 : Int32), iv (1 : Int32)] [(.int ix), (.int i0)])
    by_cases c34_422 : i0 = ix
    · refine go (fun _ => XS.icmpNo X420.here hx rfl (hb hby d7_34) rfl (XT.ii_ne_f c34_422)) ?_
      show Ends p e below s _ _ _ T420 (mkF m 37 #[rv a, iv ix, iv (0 : Int32), iv (1 : Int32)] [])
      refine go (fun _ => XS.iloadN X420.here hx rfl (hb hby d7_37) rfl) ?_
      show Ends p e below s _ _ _ T420 (mkF m 38 #[rv a, iv ix, iv (0 : Int32), iv (1 : Int32)] [(.int (0 : Int32))])
      exact endI X420 hx hlk hret (hb hby d7_38) e420 (Or.inr (Or.inl ⟨rfl, (Fr.nil _), c34_422, rfl⟩)) (by decide) (by decide)
    · refine go (fun _ => XS.icmpYes X420.here hx rfl (pc0 := 34) (pc' := 39) rfl (hb hby d7_34) rfl (XT.ii_ne_t c34_422) (by decide) (by decide)) ?_
      show Ends p e below s _ _ _ T420 (mkF m 39 #[rv a, iv ix, iv (0 : Int32), iv (1 : Int32)] [])
      refine go (fun _ => XS.iloadN X420.here hx rfl (hb hby d7_39) rfl) ?_
      refine go (fun _ => XS.aloadN X420.here hx rfl (hb hby d7_40) rfl rfl) ?_
      show Ends p e below s _ _ _ T420 (mkF m 41 #[rv a, iv ix, iv (0 : Int32), iv (1 : Int32)] [(.ref a), (.int (1 : Int32))])
      obtain ⟨T423, X423, e423, s423⟩ := getF X420 hx hZ hown (host := "") (Or.inl (hwi hw 28 rfl)) Via.refl e420 P2 (g := (mkF m 41 #[rv a, iv ix, iv (0 : Int32), iv (1 : Int32)] [(.ref a), (.int (1 : Int32))])) rfl rfl (hb hby d7_41)
      refine go s423 ?_
      show Ends p e below s _ _ _ T423 (mkF m 44 #[rv a, iv ix, iv (0 : Int32), iv (1 : Int32)] [(.int (1 : Int32)), (.int (1 : Int32))])
      refine go (fun _ => XS.icmpYes X423.here hx rfl (pc0 := 44) (pc' := 57) rfl (hb hby d7_44) rfl (XT.ii_eq_t ((by decide) : (1 : Int32) = (1 : Int32))) (by decide) (by decide)) ?_
      show Ends p e below s _ _ _ T423 (mkF m 57 #[rv a, iv ix, iv (0 : Int32), iv (1 : Int32)] [])
      refine go (fun _ => XS.iloadN X423.here hx rfl (hb hby d7_57) rfl) ?_
      show Ends p e below s _ _ _ T423 (mkF m 58 #[rv a, iv ix, iv (0 : Int32), iv (1 : Int32)] [(.int (1 : Int32))])
      refine go (fun _ => XS.ineg X423.here hx rfl (hb hby d7_58) rfl) ?_
      show Ends p e below s _ _ _ T423 (mkF m 59 #[rv a, iv ix, iv (0 : Int32), iv (1 : Int32)] [(.int (-1 : Int32))])
      refine go (fun _ => XT.iconstV X423.here hx rfl (1 : Int32) (hb hby d7_59) (by decide)) ?_
      refine go (fun _ => XS.isub X423.here hx rfl (hb hby d7_60) rfl) ?_
      show Ends p e below s _ _ _ T423 (mkF m 61 #[rv a, iv ix, iv (0 : Int32), iv (1 : Int32)] [(.int (-2 : Int32))])
      exact endI X423 hx hlk hret (hb hby d7_61) e423 (Or.inr (Or.inr (⟨rfl, (Fr.nil _), (own_gt c20_416 c34_422), rfl⟩))) (by decide) (by decide)
set_option maxRecDepth 65536 in
set_option maxHeartbeats 40000000 in
theorem rm_rc {l : Launch} {Z : State} {a0 : Array Value} (hw : ∀ d ∈ tables_1, d.before a0 Z = true)  (h0 : Heap)  :
    Con l (⟨"java/util/Arrays", "rangeCheck", "(III)V"⟩ : MethodName) jdk_65_method_30_code 3 none ({ frames := 0, cells := 0, slots := 0, locals := 0 } : Room) Z #[(.int (2 : Int32)), (.int (0 : Int32)), (.int (2 : Int32))] h0 (fun v h L => v = none ∧ Fr Z.heap.size L ∧ h0 = h) := by
  refine Con.of (plainFor_of_name pn_1) (Ls := #[iv (2 : Int32), iv (0 : Int32), iv (2 : Int32)]) (fun m => efOf rfl) ?_
  intro p e s m below meth c T0 X0 hx hZ hby hml hown hnm hret hlk e0
  refine go (fun _ => XS.iloadN X0.here hx rfl (hb hby d8_0) rfl) ?_
  refine go (fun _ => XS.iloadN X0.here hx rfl (hb hby d8_1) rfl) ?_
  show Ends p e below s _ _ _ T0 (mkF m 2 #[iv (2 : Int32), iv (0 : Int32), iv (2 : Int32)] [(.int (2 : Int32)), (.int (0 : Int32))])
  refine go (fun _ => XS.icmpYes X0.here hx rfl (pc0 := 2) (pc' := 46) rfl (hb hby d8_2) rfl (XT.ii_le_t ((by decide) : ¬ ((2 : Int32) < (0 : Int32)))) (by decide) (by decide)) ?_
  show Ends p e below s _ _ _ T0 (mkF m 46 #[iv (2 : Int32), iv (0 : Int32), iv (2 : Int32)] [])
  refine go (fun _ => XS.iloadN X0.here hx rfl (hb hby d8_46) rfl) ?_
  show Ends p e below s _ _ _ T0 (mkF m 47 #[iv (2 : Int32), iv (0 : Int32), iv (2 : Int32)] [(.int (0 : Int32))])
  refine go (fun _ => XS.ifYes X0.here hx rfl (pc0 := 47) (pc' := 59) rfl (hb hby d8_47) rfl (XT.i0_ge_t ((by decide) : ¬ ((0 : Int32) < (0 : Int32)))) (by decide) (by decide)) ?_
  show Ends p e below s _ _ _ T0 (mkF m 59 #[iv (2 : Int32), iv (0 : Int32), iv (2 : Int32)] [])
  refine go (fun _ => XS.iloadN X0.here hx rfl (hb hby d8_59) rfl) ?_
  refine go (fun _ => XS.iloadN X0.here hx rfl (hb hby d8_60) rfl) ?_
  show Ends p e below s _ _ _ T0 (mkF m 61 #[iv (2 : Int32), iv (0 : Int32), iv (2 : Int32)] [(.int (2 : Int32)), (.int (2 : Int32))])
  refine go (fun _ => XS.icmpYes X0.here hx rfl (pc0 := 61) (pc' := 73) rfl (hb hby d8_61) rfl (XT.ii_le_t ((by decide) : ¬ ((2 : Int32) < (2 : Int32)))) (by decide) (by decide)) ?_
  show Ends p e below s _ _ _ T0 (mkF m 73 #[iv (2 : Int32), iv (0 : Int32), iv (2 : Int32)] [])
  exact endV X0 hx hlk hret (hb hby d8_73) e0 ⟨rfl, (Fr.nil _), rfl⟩ (by decide) (by decide)
set_option maxRecDepth 65536 in
set_option maxHeartbeats 40000000 in
theorem rm_bs0 {l : Launch} {Z : State} {a0 : Array Value} (hw : ∀ d ∈ tables_1, d.before a0 Z = true) (b : Addr) (kb : ClassId) (i0 i1 ix : Int32) (h0 : Heap) (VB : Arv Z h0 b kb .int (2 : Int32) [(.int i0), (.int i1)] (.int 0)) (l0 : i0 < ix) (l1 : i1 < ix) :
    Con l (⟨"java/util/Arrays", "binarySearch0", "([IIII)I"⟩ : MethodName) jdk_65_method_59_code 8 (some .int) ({ frames := 0, cells := 0, slots := 0, locals := 0 } : Room) Z #[(.ref b), (.int (0 : Int32)), (.int (2 : Int32)), (.int ix)] h0 (fun v h L => v = some (.int (-3 : Int32)) ∧ Fr Z.heap.size L ∧ h0 = h) := by
  refine Con.of (plainFor_of_name pn_1) (Ls := #[rv b, iv (0 : Int32), iv (2 : Int32), iv ix, .unset, .unset, .unset, .unset]) (fun m => efOf rfl) ?_
  intro p e s m below meth c T0 X0 hx hZ hby hml hown hnm hret hlk e0
  refine go (fun _ => XS.iloadN X0.here hx rfl (hb hby d9_0) rfl) ?_
  refine go (fun _ => XS.istore X0.here hx rfl (hb hby d9_1) rfl (l' := #[rv b, iv (0 : Int32), iv (2 : Int32), iv ix, iv (0 : Int32), .unset, .unset, .unset]) rfl) ?_
  refine go (fun _ => XS.iloadN X0.here hx rfl (hb hby d9_3) rfl) ?_
  refine go (fun _ => XT.iconstV X0.here hx rfl (1 : Int32) (hb hby d9_4) (by decide)) ?_
  refine go (fun _ => XS.isub X0.here hx rfl (hb hby d9_5) rfl) ?_
  refine go (fun _ => XS.istore X0.here hx rfl (hb hby d9_6) rfl (l' := #[rv b, iv (0 : Int32), iv (2 : Int32), iv ix, iv (0 : Int32), iv (1 : Int32), .unset, .unset]) rfl) ?_
  show Ends p e below s _ _ _ T0 (mkF m 8 #[rv b, iv (0 : Int32), iv (2 : Int32), iv ix, iv (0 : Int32), iv (1 : Int32), .unset, .unset] [])
  refine go (fun _ => XS.iload X0.here hx rfl (hb hby d9_8) rfl) ?_
  refine go (fun _ => XS.iload X0.here hx rfl (hb hby d9_10) rfl) ?_
  show Ends p e below s _ _ _ T0 (mkF m 12 #[rv b, iv (0 : Int32), iv (2 : Int32), iv ix, iv (0 : Int32), iv (1 : Int32), .unset, .unset] [(.int (1 : Int32)), (.int (0 : Int32))])
  refine go (fun _ => XS.icmpNo X0.here hx rfl (hb hby d9_12) rfl (XT.ii_gt_f ((by decide) : ¬ ((1 : Int32) < (0 : Int32))))) ?_
  show Ends p e below s _ _ _ T0 (mkF m 15 #[rv b, iv (0 : Int32), iv (2 : Int32), iv ix, iv (0 : Int32), iv (1 : Int32), .unset, .unset] [])
  refine go (fun _ => XS.iload X0.here hx rfl (hb hby d9_15) rfl) ?_
  refine go (fun _ => XS.iload X0.here hx rfl (hb hby d9_17) rfl) ?_
  refine go (fun _ => XS.iadd X0.here hx rfl (hb hby d9_19) rfl) ?_
  refine go (fun _ => XT.iconstV X0.here hx rfl (1 : Int32) (hb hby d9_20) (by decide)) ?_
  refine go (fun _ => XT.iushr X0.here hx rfl (hb hby d9_21) rfl) ?_
  refine go (fun _ => XS.istore X0.here hx rfl (hb hby d9_22) rfl (l' := #[rv b, iv (0 : Int32), iv (2 : Int32), iv ix, iv (0 : Int32), iv (1 : Int32), iv (0 : Int32), .unset]) rfl) ?_
  show Ends p e below s _ _ _ T0 (mkF m 24 #[rv b, iv (0 : Int32), iv (2 : Int32), iv ix, iv (0 : Int32), iv (1 : Int32), iv (0 : Int32), .unset] [])
  refine go (fun _ => XS.aloadN X0.here hx rfl (hb hby d9_24) rfl rfl) ?_
  refine go (fun _ => XS.iload X0.here hx rfl (hb hby d9_25) rfl) ?_
  show Ends p e below s _ _ _ T0 (mkF m 27 #[rv b, iv (0 : Int32), iv (2 : Int32), iv ix, iv (0 : Int32), iv (1 : Int32), iv (0 : Int32), .unset] [(.int (0 : Int32)), (.ref b)])
  obtain ⟨cl424, A424, -, S424, M424, H424, -⟩ := id VB
  have B424 := inb_of S424 (j := (0 : Int32)) (by decide)
  refine go (fun _ => X0.iaload hx (j := (0 : Int32)) (v := (.int i0)) (by rw [e0]; exact A424.1) (State.isArrayOf_alike hZ.alike A424.2.1) A424.2.2 B424 (H424.at B424 rfl) (g := (mkF m 27 #[rv b, iv (0 : Int32), iv (2 : Int32), iv ix, iv (0 : Int32), iv (1 : Int32), iv (0 : Int32), .unset] [(.int (0 : Int32)), (.ref b)])) rfl rfl (hb hby d9_27) _) ?_
  show Ends p e below s _ _ _ T0 (mkF m 28 #[rv b, iv (0 : Int32), iv (2 : Int32), iv ix, iv (0 : Int32), iv (1 : Int32), iv (0 : Int32), .unset] [(.int i0)])
  refine go (fun _ => XS.istore X0.here hx rfl (hb hby d9_28) rfl (l' := #[rv b, iv (0 : Int32), iv (2 : Int32), iv ix, iv (0 : Int32), iv (1 : Int32), iv (0 : Int32), iv i0]) rfl) ?_
  refine go (fun _ => XS.iload X0.here hx rfl (hb hby d9_30) rfl) ?_
  refine go (fun _ => XS.iloadN X0.here hx rfl (hb hby d9_32) rfl) ?_
  show Ends p e below s _ _ _ T0 (mkF m 33 #[rv b, iv (0 : Int32), iv (2 : Int32), iv ix, iv (0 : Int32), iv (1 : Int32), iv (0 : Int32), iv i0] [(.int ix), (.int i0)])
  refine go (fun _ => XS.icmpNo X0.here hx rfl (hb hby d9_33) rfl (XT.ii_ge_f l0)) ?_
  show Ends p e below s _ _ _ T0 (mkF m 36 #[rv b, iv (0 : Int32), iv (2 : Int32), iv ix, iv (0 : Int32), iv (1 : Int32), iv (0 : Int32), iv i0] [])
  refine go (fun _ => XS.iload X0.here hx rfl (hb hby d9_36) rfl) ?_
  refine go (fun _ => XT.iconstV X0.here hx rfl (1 : Int32) (hb hby d9_38) (by decide)) ?_
  refine go (fun _ => XS.iadd X0.here hx rfl (hb hby d9_39) rfl) ?_
  refine go (fun _ => XS.istore X0.here hx rfl (hb hby d9_40) rfl (l' := #[rv b, iv (0 : Int32), iv (2 : Int32), iv ix, iv (1 : Int32), iv (1 : Int32), iv (0 : Int32), iv i0]) rfl) ?_
  refine go (fun _ => XS.goto X0.here hx rfl (pc0 := 42) (pc' := 63) rfl (hb hby d9_42) (by decide) (by decide)) ?_
  refine go (fun _ => XS.goto X0.here hx rfl (pc0 := 63) (pc' := 8) rfl (hb hby d9_63) (by decide) (by decide)) ?_
  show Ends p e below s _ _ _ T0 (mkF m 8 #[rv b, iv (0 : Int32), iv (2 : Int32), iv ix, iv (1 : Int32), iv (1 : Int32), iv (0 : Int32), iv i0] [])
  refine go (fun _ => XS.iload X0.here hx rfl (hb hby d9_8) rfl) ?_
  refine go (fun _ => XS.iload X0.here hx rfl (hb hby d9_10) rfl) ?_
  show Ends p e below s _ _ _ T0 (mkF m 12 #[rv b, iv (0 : Int32), iv (2 : Int32), iv ix, iv (1 : Int32), iv (1 : Int32), iv (0 : Int32), iv i0] [(.int (1 : Int32)), (.int (1 : Int32))])
  refine go (fun _ => XS.icmpNo X0.here hx rfl (hb hby d9_12) rfl (XT.ii_gt_f ((by decide) : ¬ ((1 : Int32) < (1 : Int32))))) ?_
  show Ends p e below s _ _ _ T0 (mkF m 15 #[rv b, iv (0 : Int32), iv (2 : Int32), iv ix, iv (1 : Int32), iv (1 : Int32), iv (0 : Int32), iv i0] [])
  refine go (fun _ => XS.iload X0.here hx rfl (hb hby d9_15) rfl) ?_
  refine go (fun _ => XS.iload X0.here hx rfl (hb hby d9_17) rfl) ?_
  refine go (fun _ => XS.iadd X0.here hx rfl (hb hby d9_19) rfl) ?_
  refine go (fun _ => XT.iconstV X0.here hx rfl (1 : Int32) (hb hby d9_20) (by decide)) ?_
  refine go (fun _ => XT.iushr X0.here hx rfl (hb hby d9_21) rfl) ?_
  refine go (fun _ => XS.istore X0.here hx rfl (hb hby d9_22) rfl (l' := #[rv b, iv (0 : Int32), iv (2 : Int32), iv ix, iv (1 : Int32), iv (1 : Int32), iv (1 : Int32), iv i0]) rfl) ?_
  show Ends p e below s _ _ _ T0 (mkF m 24 #[rv b, iv (0 : Int32), iv (2 : Int32), iv ix, iv (1 : Int32), iv (1 : Int32), iv (1 : Int32), iv i0] [])
  refine go (fun _ => XS.aloadN X0.here hx rfl (hb hby d9_24) rfl rfl) ?_
  refine go (fun _ => XS.iload X0.here hx rfl (hb hby d9_25) rfl) ?_
  show Ends p e below s _ _ _ T0 (mkF m 27 #[rv b, iv (0 : Int32), iv (2 : Int32), iv ix, iv (1 : Int32), iv (1 : Int32), iv (1 : Int32), iv i0] [(.int (1 : Int32)), (.ref b)])
  obtain ⟨cl425, A425, -, S425, M425, H425, -⟩ := id VB
  have B425 := inb_of S425 (j := (1 : Int32)) (by decide)
  refine go (fun _ => X0.iaload hx (j := (1 : Int32)) (v := (.int i1)) (by rw [e0]; exact A425.1) (State.isArrayOf_alike hZ.alike A425.2.1) A425.2.2 B425 (H425.at B425 rfl) (g := (mkF m 27 #[rv b, iv (0 : Int32), iv (2 : Int32), iv ix, iv (1 : Int32), iv (1 : Int32), iv (1 : Int32), iv i0] [(.int (1 : Int32)), (.ref b)])) rfl rfl (hb hby d9_27) _) ?_
  show Ends p e below s _ _ _ T0 (mkF m 28 #[rv b, iv (0 : Int32), iv (2 : Int32), iv ix, iv (1 : Int32), iv (1 : Int32), iv (1 : Int32), iv i0] [(.int i1)])
  refine go (fun _ => XS.istore X0.here hx rfl (hb hby d9_28) rfl (l' := #[rv b, iv (0 : Int32), iv (2 : Int32), iv ix, iv (1 : Int32), iv (1 : Int32), iv (1 : Int32), iv i1]) rfl) ?_
  refine go (fun _ => XS.iload X0.here hx rfl (hb hby d9_30) rfl) ?_
  refine go (fun _ => XS.iloadN X0.here hx rfl (hb hby d9_32) rfl) ?_
  show Ends p e below s _ _ _ T0 (mkF m 33 #[rv b, iv (0 : Int32), iv (2 : Int32), iv ix, iv (1 : Int32), iv (1 : Int32), iv (1 : Int32), iv i1] [(.int ix), (.int i1)])
  refine go (fun _ => XS.icmpNo X0.here hx rfl (hb hby d9_33) rfl (XT.ii_ge_f l1)) ?_
  show Ends p e below s _ _ _ T0 (mkF m 36 #[rv b, iv (0 : Int32), iv (2 : Int32), iv ix, iv (1 : Int32), iv (1 : Int32), iv (1 : Int32), iv i1] [])
  refine go (fun _ => XS.iload X0.here hx rfl (hb hby d9_36) rfl) ?_
  refine go (fun _ => XT.iconstV X0.here hx rfl (1 : Int32) (hb hby d9_38) (by decide)) ?_
  refine go (fun _ => XS.iadd X0.here hx rfl (hb hby d9_39) rfl) ?_
  refine go (fun _ => XS.istore X0.here hx rfl (hb hby d9_40) rfl (l' := #[rv b, iv (0 : Int32), iv (2 : Int32), iv ix, iv (2 : Int32), iv (1 : Int32), iv (1 : Int32), iv i1]) rfl) ?_
  refine go (fun _ => XS.goto X0.here hx rfl (pc0 := 42) (pc' := 63) rfl (hb hby d9_42) (by decide) (by decide)) ?_
  refine go (fun _ => XS.goto X0.here hx rfl (pc0 := 63) (pc' := 8) rfl (hb hby d9_63) (by decide) (by decide)) ?_
  show Ends p e below s _ _ _ T0 (mkF m 8 #[rv b, iv (0 : Int32), iv (2 : Int32), iv ix, iv (2 : Int32), iv (1 : Int32), iv (1 : Int32), iv i1] [])
  refine go (fun _ => XS.iload X0.here hx rfl (hb hby d9_8) rfl) ?_
  refine go (fun _ => XS.iload X0.here hx rfl (hb hby d9_10) rfl) ?_
  show Ends p e below s _ _ _ T0 (mkF m 12 #[rv b, iv (0 : Int32), iv (2 : Int32), iv ix, iv (2 : Int32), iv (1 : Int32), iv (1 : Int32), iv i1] [(.int (1 : Int32)), (.int (2 : Int32))])
  refine go (fun _ => XS.icmpYes X0.here hx rfl (pc0 := 12) (pc' := 66) rfl (hb hby d9_12) rfl (XT.ii_gt_t ((by decide) : (1 : Int32) < (2 : Int32))) (by decide) (by decide)) ?_
  show Ends p e below s _ _ _ T0 (mkF m 66 #[rv b, iv (0 : Int32), iv (2 : Int32), iv ix, iv (2 : Int32), iv (1 : Int32), iv (1 : Int32), iv i1] [])
  refine go (fun _ => XS.iload X0.here hx rfl (hb hby d9_66) rfl) ?_
  refine go (fun _ => XT.iconstV X0.here hx rfl (1 : Int32) (hb hby d9_68) (by decide)) ?_
  refine go (fun _ => XS.iadd X0.here hx rfl (hb hby d9_69) rfl) ?_
  show Ends p e below s _ _ _ T0 (mkF m 70 #[rv b, iv (0 : Int32), iv (2 : Int32), iv ix, iv (2 : Int32), iv (1 : Int32), iv (1 : Int32), iv i1] [(.int (3 : Int32))])
  refine go (fun _ => XS.ineg X0.here hx rfl (hb hby d9_70) rfl) ?_
  show Ends p e below s _ _ _ T0 (mkF m 71 #[rv b, iv (0 : Int32), iv (2 : Int32), iv ix, iv (2 : Int32), iv (1 : Int32), iv (1 : Int32), iv i1] [(.int (-3 : Int32))])
  exact endI X0 hx hlk hret (hb hby d9_71) e0 ⟨rfl, (Fr.nil _), rfl⟩ (by decide) (by decide)
set_option maxRecDepth 65536 in
set_option maxHeartbeats 40000000 in
theorem rm_bs2 {l : Launch} {Z : State} {a0 : Array Value} (hw : ∀ d ∈ tables_1, d.before a0 Z = true) (b : Addr) (kb : ClassId) (i0 i1 ix : Int32) (h0 : Heap) (VB : Arv Z h0 b kb .int (2 : Int32) [(.int i0), (.int i1)] (.int 0)) (l0 : i0 < ix) (l1 : i1 < ix) :
    Con l (⟨"java/util/Arrays", "binarySearch", "([IIII)I"⟩ : MethodName) jdk_65_method_58_code 4 (some .int) ({ frames := 1, cells := 0, slots := 0, locals := 19 } : Room) Z #[(.ref b), (.int (0 : Int32)), (.int (2 : Int32)), (.int ix)] h0 (fun v h L => v = some (.int (-3 : Int32)) ∧ Fr Z.heap.size L ∧ h0 = h) := by
  refine Con.of (plainFor_of_name pn_1) (Ls := #[rv b, iv (0 : Int32), iv (2 : Int32), iv ix]) (fun m => efOf rfl) ?_
  intro p e s m below meth c T0 X0 hx hZ hby hml hown hnm hret hlk e0
  refine go (fun _ => XS.aloadN X0.here hx rfl (hb hby d10_0) rfl rfl) ?_
  show Ends p e below s _ _ _ T0 (mkF m 1 #[rv b, iv (0 : Int32), iv (2 : Int32), iv ix] [(.ref b)])
  obtain ⟨cl426, A426, -, S426, M426, -⟩ := id VB
  refine go (fun _ => X0.arraylength hx (cell := cl426) (by rw [e0]; exact A426.1) (State.isArrayOf_alike hZ.alike A426.2.1) (g := (mkF m 1 #[rv b, iv (0 : Int32), iv (2 : Int32), iv ix] [(.ref b)])) rfl rfl (hb hby d10_1) _) ?_
  rw [len_of S426 M426]
  show Ends p e below s _ _ _ T0 (mkF m 2 #[rv b, iv (0 : Int32), iv (2 : Int32), iv ix] [(.int (2 : Int32))])
  refine go (fun _ => XS.iloadN X0.here hx rfl (hb hby d10_2) rfl) ?_
  refine go (fun _ => XS.iloadN X0.here hx rfl (hb hby d10_3) rfl) ?_
  show Ends p e below s _ _ _ T0 (mkF m 4 #[rv b, iv (0 : Int32), iv (2 : Int32), iv ix] [(.int (2 : Int32)), (.int (0 : Int32)), (.int (2 : Int32))])
  refine cStat X0 hx hZ hown (by rw [hml]; rfl) e0 (hwi hw 72 rfl) (hwi hw 73 rfl) (hwi hw 44 rfl) (hwi hw 74 rfl) [(.int (2 : Int32)), (.int (0 : Int32)), (.int (2 : Int32))] [] rfl (rm_rc hw _) (hb hby d10_4) rfl (lenOf pd_6 rfl) (by decide) (by decide) (Nat.le_of_ble_eq_true rfl) (by decide) (by decide) ?_
  rintro v427 T427 h427 L427 X427 e427 ⟨rfl, N427, rfl⟩
  have N427a := Fr.app (Fr.nil _) N427
  show Ends p e below s _ _ _ T427 (mkF m 7 #[rv b, iv (0 : Int32), iv (2 : Int32), iv ix] [])
  refine go (fun _ => XS.aloadN X427.here hx rfl (hb hby d10_7) rfl rfl) ?_
  refine go (fun _ => XS.iloadN X427.here hx rfl (hb hby d10_8) rfl) ?_
  refine go (fun _ => XS.iloadN X427.here hx rfl (hb hby d10_9) rfl) ?_
  refine go (fun _ => XS.iloadN X427.here hx rfl (hb hby d10_10) rfl) ?_
  show Ends p e below s _ _ _ T427 (mkF m 11 #[rv b, iv (0 : Int32), iv (2 : Int32), iv ix] [(.int ix), (.int (2 : Int32)), (.int (0 : Int32)), (.ref b)])
  refine cStat X427 hx hZ hown (by rw [hml]; rfl) e427 (hwi hw 75 rfl) (hwi hw 76 rfl) (hwi hw 44 rfl) (hwi hw 77 rfl) [(.ref b), (.int (0 : Int32)), (.int (2 : Int32)), (.int ix)] [] rfl (rm_bs0 hw b kb i0 i1 ix _ VB l0 l1) (hb hby d10_11) rfl (lenOf pd_7 rfl) (by decide) (by decide) (Nat.le_of_ble_eq_true rfl) (by decide) (by decide) ?_
  rintro v428 T428 h428 L428 X428 e428 ⟨rfl, N428, rfl⟩
  have N428a := Fr.app N427a N428
  show Ends p e below s _ _ _ T428 (mkF m 14 #[rv b, iv (0 : Int32), iv (2 : Int32), iv ix] [(.int (-3 : Int32))])
  exact endI X428 hx hlk hret (hb hby d10_14) e428 ⟨rfl, N428a, rfl⟩ (by decide) (by decide)
set_option maxRecDepth 65536 in
set_option maxHeartbeats 40000000 in
theorem rm_pos2 {l : Launch} {Z : State} {a0 : Array Value} (hw : ∀ d ∈ tables_1, d.before a0 Z = true) (a ai aw : Addr) (ki kw : ClassId) (i0 i1 : Int32) (w0 w1 : Int64) (ix : Int32) (h0 : Heap) (O0 : Ext Z.heap h0) (f0 : Z.heap.size ≤ a) (E0 : Exa Z h0 a "com/example/libtbox/libtbox/core/SparseBitSet") (P0 : Fld Z h0 a "com/example/libtbox/libtbox/core/SparseBitSet" "indices" "[I" (.ref ai)) (P1 : Fld Z h0 a "com/example/libtbox/libtbox/core/SparseBitSet" "words" "[J" (.ref aw)) (P2 : Fld Z h0 a "com/example/libtbox/libtbox/core/SparseBitSet" "count" "I" (.int (2 : Int32))) (P3 : Fld Z h0 a "com/example/libtbox/libtbox/core/SparseBitSet" "lastFound" "I" (.int (0 : Int32))) (P4 : Arv Z h0 ai ki .int (2 : Int32) [(.int i0), (.int i1)] (.int 0)) (P5 : Arv Z h0 aw kw .long (2 : Int32) [(.long w0), (.long w1)] (.long 0)) (fi : Z.heap.size ≤ ai) (fw : Z.heap.size ≤ aw) (nai : a ≠ ai) (naw : a ≠ aw) (niw : ai ≠ aw)  :
    Con l (⟨"com/example/libtbox/libtbox/core/SparseBitSet", "position", "(I)I"⟩ : MethodName) prog_51_method_18_code 4 (some .int) ({ frames := 2, cells := 0, slots := 0, locals := 34 } : Room) Z #[(.ref a), (.int ix)] h0 (fun v h L => (v = some (.int (-1 : Int32)) ∧ Fr Z.heap.size L ∧ (ix < i0) ∧ h0 = h) ∨ (v = some (.int (0 : Int32)) ∧ Fr Z.heap.size L ∧ (i0 = ix) ∧ h0 = h) ∨ (v = some (.int (-2 : Int32)) ∧ Fr Z.heap.size L ∧ (i0 < ix ∧ ix < i1) ∧ h0 = h) ∨ (v = some (.int (1 : Int32)) ∧ Fr Z.heap.size L ∧ (i1 = ix) ∧ Keep h0 h [a] ∧ Fld Z h a "com/example/libtbox/libtbox/core/SparseBitSet" "indices" "[I" (.ref ai) ∧ Fld Z h a "com/example/libtbox/libtbox/core/SparseBitSet" "words" "[J" (.ref aw) ∧ Fld Z h a "com/example/libtbox/libtbox/core/SparseBitSet" "count" "I" (.int (2 : Int32)) ∧ Fld Z h a "com/example/libtbox/libtbox/core/SparseBitSet" "lastFound" "I" (.int (1 : Int32))) ∨ (v = some (.int (-3 : Int32)) ∧ Fr Z.heap.size L ∧ (i0 < ix ∧ i1 < ix) ∧ h0 = h)) := by
  refine Con.of (plainFor_of_name pn_0) (Ls := #[rv a, iv ix, .unset, .unset]) (fun m => efOf rfl) ?_
  intro p e s m below meth c T0 X0 hx hZ hby hml hown hnm hret hlk e0
  refine go (fun _ => XS.aloadN X0.here hx rfl (hb hby d7_0) rfl rfl) ?_
  show Ends p e below s _ _ _ T0 (mkF m 1 #[rv a, iv ix, .unset, .unset] [(.ref a)])
  obtain ⟨T429, X429, e429, s429⟩ := getF X0 hx hZ hown (host := "") (Or.inl (hwi hw 26 rfl)) Via.refl e0 P3 (g := (mkF m 1 #[rv a, iv ix, .unset, .unset] [(.ref a)])) rfl rfl (hb hby d7_1)
  refine go s429 ?_
  show Ends p e below s _ _ _ T429 (mkF m 4 #[rv a, iv ix, .unset, .unset] [(.int (0 : Int32))])
  refine go (fun _ => XS.istoreN X429.here hx rfl (hb hby d7_4) rfl (l' := #[rv a, iv ix, iv (0 : Int32), .unset]) rfl) ?_
  refine go (fun _ => XS.iloadN X429.here hx rfl (hb hby d7_5) rfl) ?_
  refine go (fun _ => XS.aloadN X429.here hx rfl (hb hby d7_6) rfl rfl) ?_
  show Ends p e below s _ _ _ T429 (mkF m 7 #[rv a, iv ix, iv (0 : Int32), .unset] [(.ref a), (.int (0 : Int32))])
  obtain ⟨T430, X430, e430, s430⟩ := getF X429 hx hZ hown (host := "") (Or.inl (hwi hw 28 rfl)) Via.refl e429 P2 (g := (mkF m 7 #[rv a, iv ix, iv (0 : Int32), .unset] [(.ref a), (.int (0 : Int32))])) rfl rfl (hb hby d7_7)
  refine go s430 ?_
  show Ends p e below s _ _ _ T430 (mkF m 10 #[rv a, iv ix, iv (0 : Int32), .unset] [(.int (2 : Int32)), (.int (0 : Int32))])
  refine go (fun _ => XS.icmpNo X430.here hx rfl (hb hby d7_10) rfl (XT.ii_ge_f ((by decide) : (0 : Int32) < (2 : Int32)))) ?_
  show Ends p e below s _ _ _ T430 (mkF m 13 #[rv a, iv ix, iv (0 : Int32), .unset] [])
  refine go (fun _ => XS.aloadN X430.here hx rfl (hb hby d7_13) rfl rfl) ?_
  show Ends p e below s _ _ _ T430 (mkF m 14 #[rv a, iv ix, iv (0 : Int32), .unset] [(.ref a)])
  obtain ⟨T431, X431, e431, s431⟩ := getF X430 hx hZ hown (host := "") (Or.inl (hwi hw 11 rfl)) Via.refl e430 P0 (g := (mkF m 14 #[rv a, iv ix, iv (0 : Int32), .unset] [(.ref a)])) rfl rfl (hb hby d7_14)
  refine go s431 ?_
  show Ends p e below s _ _ _ T431 (mkF m 17 #[rv a, iv ix, iv (0 : Int32), .unset] [(.ref ai)])
  refine go (fun _ => XS.iloadN X431.here hx rfl (hb hby d7_17) rfl) ?_
  show Ends p e below s _ _ _ T431 (mkF m 18 #[rv a, iv ix, iv (0 : Int32), .unset] [(.int (0 : Int32)), (.ref ai)])
  obtain ⟨cl432, A432, -, S432, M432, H432, -⟩ := id P4
  have B432 := inb_of S432 (j := (0 : Int32)) (by decide)
  refine go (fun _ => X431.iaload hx (j := (0 : Int32)) (v := (.int i0)) (by rw [e431]; exact A432.1) (State.isArrayOf_alike hZ.alike A432.2.1) A432.2.2 B432 (H432.at B432 rfl) (g := (mkF m 18 #[rv a, iv ix, iv (0 : Int32), .unset] [(.int (0 : Int32)), (.ref ai)])) rfl rfl (hb hby d7_18) _) ?_
  show Ends p e below s _ _ _ T431 (mkF m 19 #[rv a, iv ix, iv (0 : Int32), .unset] [(.int i0)])
  refine go (fun _ => XS.iloadN X431.here hx rfl (hb hby d7_19) rfl) ?_
  show Ends p e below s _ _ _ T431 (mkF m 20 #[rv a, iv ix, iv (0 : Int32), .unset] [(.int ix), (.int i0)])
  by_cases c20_433 : ix < i0
  · refine go (fun _ => XS.icmpYes X431.here hx rfl (pc0 := 20) (pc' := 82) rfl (hb hby d7_20) rfl (XT.ii_gt_t c20_433) (by decide) (by decide)) ?_
    show Ends p e below s _ _ _ T431 (mkF m 82 #[rv a, iv ix, iv (0 : Int32), .unset] [])
    refine go (fun _ => XS.aloadN X431.here hx rfl (hb hby d7_82) rfl rfl) ?_
    show Ends p e below s _ _ _ T431 (mkF m 83 #[rv a, iv ix, iv (0 : Int32), .unset] [(.ref a)])
    obtain ⟨T434, X434, e434, s434⟩ := getF X431 hx hZ hown (host := "") (Or.inl (hwi hw 28 rfl)) Via.refl e431 P2 (g := (mkF m 83 #[rv a, iv ix, iv (0 : Int32), .unset] [(.ref a)])) rfl rfl (hb hby d7_83)
    refine go s434 ?_
    show Ends p e below s _ _ _ T434 (mkF m 86 #[rv a, iv ix, iv (0 : Int32), .unset] [(.int (2 : Int32))])
    refine go (fun _ => XS.ifNo X434.here hx rfl (hb hby d7_86) rfl (XT.i0_eq_f ((by decide) : ¬ ((2 : Int32) = (0 : Int32))))) ?_
    show Ends p e below s _ _ _ T434 (mkF m 89 #[rv a, iv ix, iv (0 : Int32), .unset] [])
    refine go (fun _ => XS.iloadN X434.here hx rfl (hb hby d7_89) rfl) ?_
    refine go (fun _ => XS.aloadN X434.here hx rfl (hb hby d7_90) rfl rfl) ?_
    show Ends p e below s _ _ _ T434 (mkF m 91 #[rv a, iv ix, iv (0 : Int32), .unset] [(.ref a), (.int ix)])
    obtain ⟨T435, X435, e435, s435⟩ := getF X434 hx hZ hown (host := "") (Or.inl (hwi hw 11 rfl)) Via.refl e434 P0 (g := (mkF m 91 #[rv a, iv ix, iv (0 : Int32), .unset] [(.ref a), (.int ix)])) rfl rfl (hb hby d7_91)
    refine go s435 ?_
    show Ends p e below s _ _ _ T435 (mkF m 94 #[rv a, iv ix, iv (0 : Int32), .unset] [(.ref ai), (.int ix)])
    refine go (fun _ => XT.iconstV X435.here hx rfl (0 : Int32) (hb hby d7_94) (by decide)) ?_
    show Ends p e below s _ _ _ T435 (mkF m 95 #[rv a, iv ix, iv (0 : Int32), .unset] [(.int (0 : Int32)), (.ref ai), (.int ix)])
    obtain ⟨cl436, A436, -, S436, M436, H436, -⟩ := id P4
    have B436 := inb_of S436 (j := (0 : Int32)) (by decide)
    refine go (fun _ => X435.iaload hx (j := (0 : Int32)) (v := (.int i0)) (by rw [e435]; exact A436.1) (State.isArrayOf_alike hZ.alike A436.2.1) A436.2.2 B436 (H436.at B436 rfl) (g := (mkF m 95 #[rv a, iv ix, iv (0 : Int32), .unset] [(.int (0 : Int32)), (.ref ai), (.int ix)])) rfl rfl (hb hby d7_95) _) ?_
    show Ends p e below s _ _ _ T435 (mkF m 96 #[rv a, iv ix, iv (0 : Int32), .unset] [(.int i0), (.int ix)])
    refine go (fun _ => XS.icmpNo X435.here hx rfl (hb hby d7_96) rfl (XT.ii_ge_f c20_433)) ?_
    show Ends p e below s _ _ _ T435 (mkF m 99 #[rv a, iv ix, iv (0 : Int32), .unset] [])
    refine go (fun _ => XT.iconstV X435.here hx rfl (-1 : Int32) (hb hby d7_99) (by decide)) ?_
    show Ends p e below s _ _ _ T435 (mkF m 100 #[rv a, iv ix, iv (0 : Int32), .unset] [(.int (-1 : Int32))])
    exact endI X435 hx hlk hret (hb hby d7_100) e435 (Or.inl ⟨rfl, (Fr.nil _), c20_433, rfl⟩) (by decide) (by decide)
  · refine go (fun _ => XS.icmpNo X431.here hx rfl (hb hby d7_20) rfl (XT.ii_gt_f c20_433)) ?_
    show Ends p e below s _ _ _ T431 (mkF m 23 #[rv a, iv ix, iv (0 : Int32), .unset] [])
    refine go (fun _ => XS.iloadN X431.here hx rfl (hb hby d7_23) rfl) ?_
    refine go (fun _ => XT.iconstV X431.here hx rfl (1 : Int32) (hb hby d7_24) (by decide)) ?_
    refine go (fun _ => XS.iadd X431.here hx rfl (hb hby d7_25) rfl) ?_
    refine go (fun _ => XS.istoreN X431.here hx rfl (hb hby d7_26) rfl (l' := #[rv a, iv ix, iv (0 : Int32), iv (1 : Int32)]) rfl) ?_
    refine go (fun _ => XS.aloadN X431.here hx rfl (hb hby d7_27) rfl rfl) ?_
    show Ends p e below s _ _ _ T431 (mkF m 28 #[rv a, iv ix, iv (0 : Int32), iv (1 : Int32)] [(.ref a)])
    obtain ⟨T437, X437, e437, s437⟩ := getF X431 hx hZ hown (host := "") (Or.inl (hwi hw 11 rfl)) Via.refl e431 P0 (g := (mkF m 28 #[rv a, iv ix, iv (0 : Int32), iv (1 : Int32)] [(.ref a)])) rfl rfl (hb hby d7_28)
    refine go s437 ?_
    show Ends p e below s _ _ _ T437 (mkF m 31 #[rv a, iv ix, iv (0 : Int32), iv (1 : Int32)] [(.ref ai)])
    refine go (fun _ => XS.iloadN X437.here hx rfl (hb hby d7_31) rfl) ?_
    show Ends p e below s _ _ _ T437 (mkF m 32 #[rv a, iv ix, iv (0 : Int32), iv (1 : Int32)] [(.int (0 : Int32)), (.ref ai)])
    obtain ⟨cl438, A438, -, S438, M438, H438, -⟩ := id P4
    have B438 := inb_of S438 (j := (0 : Int32)) (by decide)
    refine go (fun _ => X437.iaload hx (j := (0 : Int32)) (v := (.int i0)) (by rw [e437]; exact A438.1) (State.isArrayOf_alike hZ.alike A438.2.1) A438.2.2 B438 (H438.at B438 rfl) (g := (mkF m 32 #[rv a, iv ix, iv (0 : Int32), iv (1 : Int32)] [(.int (0 : Int32)), (.ref ai)])) rfl rfl (hb hby d7_32) _) ?_
    show Ends p e below s _ _ _ T437 (mkF m 33 #[rv a, iv ix, iv (0 : Int32), iv (1 : Int32)] [(.int i0)])
    refine go (fun _ => XS.iloadN X437.here hx rfl (hb hby d7_33) rfl) ?_
    show Ends p e below s _ _ _ T437 (mkF m 34 #[rv a, iv ix, iv (0 : Int32), iv (1 : Int32)] [(.int ix), (.int i0)])
    by_cases c34_439 : i0 = ix
    · refine go (fun _ => XS.icmpNo X437.here hx rfl (hb hby d7_34) rfl (XT.ii_ne_f c34_439)) ?_
      show Ends p e below s _ _ _ T437 (mkF m 37 #[rv a, iv ix, iv (0 : Int32), iv (1 : Int32)] [])
      refine go (fun _ => XS.iloadN X437.here hx rfl (hb hby d7_37) rfl) ?_
      show Ends p e below s _ _ _ T437 (mkF m 38 #[rv a, iv ix, iv (0 : Int32), iv (1 : Int32)] [(.int (0 : Int32))])
      exact endI X437 hx hlk hret (hb hby d7_38) e437 (Or.inr (Or.inl ⟨rfl, (Fr.nil _), c34_439, rfl⟩)) (by decide) (by decide)
    · refine go (fun _ => XS.icmpYes X437.here hx rfl (pc0 := 34) (pc' := 39) rfl (hb hby d7_34) rfl (XT.ii_ne_t c34_439) (by decide) (by decide)) ?_
      show Ends p e below s _ _ _ T437 (mkF m 39 #[rv a, iv ix, iv (0 : Int32), iv (1 : Int32)] [])
      refine go (fun _ => XS.iloadN X437.here hx rfl (hb hby d7_39) rfl) ?_
      refine go (fun _ => XS.aloadN X437.here hx rfl (hb hby d7_40) rfl rfl) ?_
      show Ends p e below s _ _ _ T437 (mkF m 41 #[rv a, iv ix, iv (0 : Int32), iv (1 : Int32)] [(.ref a), (.int (1 : Int32))])
      obtain ⟨T440, X440, e440, s440⟩ := getF X437 hx hZ hown (host := "") (Or.inl (hwi hw 28 rfl)) Via.refl e437 P2 (g := (mkF m 41 #[rv a, iv ix, iv (0 : Int32), iv (1 : Int32)] [(.ref a), (.int (1 : Int32))])) rfl rfl (hb hby d7_41)
      refine go s440 ?_
      show Ends p e below s _ _ _ T440 (mkF m 44 #[rv a, iv ix, iv (0 : Int32), iv (1 : Int32)] [(.int (2 : Int32)), (.int (1 : Int32))])
      refine go (fun _ => XS.icmpNo X440.here hx rfl (hb hby d7_44) rfl (XT.ii_eq_f ((by decide) : ¬ ((1 : Int32) = (2 : Int32))))) ?_
      show Ends p e below s _ _ _ T440 (mkF m 47 #[rv a, iv ix, iv (0 : Int32), iv (1 : Int32)] [])
      refine go (fun _ => XS.aloadN X440.here hx rfl (hb hby d7_47) rfl rfl) ?_
      show Ends p e below s _ _ _ T440 (mkF m 48 #[rv a, iv ix, iv (0 : Int32), iv (1 : Int32)] [(.ref a)])
      obtain ⟨T441, X441, e441, s441⟩ := getF X440 hx hZ hown (host := "") (Or.inl (hwi hw 11 rfl)) Via.refl e440 P0 (g := (mkF m 48 #[rv a, iv ix, iv (0 : Int32), iv (1 : Int32)] [(.ref a)])) rfl rfl (hb hby d7_48)
      refine go s441 ?_
      show Ends p e below s _ _ _ T441 (mkF m 51 #[rv a, iv ix, iv (0 : Int32), iv (1 : Int32)] [(.ref ai)])
      refine go (fun _ => XS.iloadN X441.here hx rfl (hb hby d7_51) rfl) ?_
      show Ends p e below s _ _ _ T441 (mkF m 52 #[rv a, iv ix, iv (0 : Int32), iv (1 : Int32)] [(.int (1 : Int32)), (.ref ai)])
      obtain ⟨cl442, A442, -, S442, M442, H442, -⟩ := id P4
      have B442 := inb_of S442 (j := (1 : Int32)) (by decide)
      refine go (fun _ => X441.iaload hx (j := (1 : Int32)) (v := (.int i1)) (by rw [e441]; exact A442.1) (State.isArrayOf_alike hZ.alike A442.2.1) A442.2.2 B442 (H442.at B442 rfl) (g := (mkF m 52 #[rv a, iv ix, iv (0 : Int32), iv (1 : Int32)] [(.int (1 : Int32)), (.ref ai)])) rfl rfl (hb hby d7_52) _) ?_
      show Ends p e below s _ _ _ T441 (mkF m 53 #[rv a, iv ix, iv (0 : Int32), iv (1 : Int32)] [(.int i1)])
      refine go (fun _ => XS.iloadN X441.here hx rfl (hb hby d7_53) rfl) ?_
      show Ends p e below s _ _ _ T441 (mkF m 54 #[rv a, iv ix, iv (0 : Int32), iv (1 : Int32)] [(.int ix), (.int i1)])
      by_cases c54_443 : ix < i1
      · refine go (fun _ => XS.icmpNo X441.here hx rfl (hb hby d7_54) rfl (XT.ii_le_f c54_443)) ?_
        show Ends p e below s _ _ _ T441 (mkF m 57 #[rv a, iv ix, iv (0 : Int32), iv (1 : Int32)] [])
        refine go (fun _ => XS.iloadN X441.here hx rfl (hb hby d7_57) rfl) ?_
        show Ends p e below s _ _ _ T441 (mkF m 58 #[rv a, iv ix, iv (0 : Int32), iv (1 : Int32)] [(.int (1 : Int32))])
        refine go (fun _ => XS.ineg X441.here hx rfl (hb hby d7_58) rfl) ?_
        show Ends p e below s _ _ _ T441 (mkF m 59 #[rv a, iv ix, iv (0 : Int32), iv (1 : Int32)] [(.int (-1 : Int32))])
        refine go (fun _ => XT.iconstV X441.here hx rfl (1 : Int32) (hb hby d7_59) (by decide)) ?_
        refine go (fun _ => XS.isub X441.here hx rfl (hb hby d7_60) rfl) ?_
        show Ends p e below s _ _ _ T441 (mkF m 61 #[rv a, iv ix, iv (0 : Int32), iv (1 : Int32)] [(.int (-2 : Int32))])
        exact endI X441 hx hlk hret (hb hby d7_61) e441 (Or.inr (Or.inr (Or.inl ⟨rfl, (Fr.nil _), ⟨own_gt c20_433 c34_439, c54_443⟩, rfl⟩))) (by decide) (by decide)
      · refine go (fun _ => XS.icmpYes X441.here hx rfl (pc0 := 54) (pc' := 62) rfl (hb hby d7_54) rfl (XT.ii_le_t c54_443) (by decide) (by decide)) ?_
        show Ends p e below s _ _ _ T441 (mkF m 62 #[rv a, iv ix, iv (0 : Int32), iv (1 : Int32)] [])
        refine go (fun _ => XS.aloadN X441.here hx rfl (hb hby d7_62) rfl rfl) ?_
        show Ends p e below s _ _ _ T441 (mkF m 63 #[rv a, iv ix, iv (0 : Int32), iv (1 : Int32)] [(.ref a)])
        obtain ⟨T444, X444, e444, s444⟩ := getF X441 hx hZ hown (host := "") (Or.inl (hwi hw 11 rfl)) Via.refl e441 P0 (g := (mkF m 63 #[rv a, iv ix, iv (0 : Int32), iv (1 : Int32)] [(.ref a)])) rfl rfl (hb hby d7_63)
        refine go s444 ?_
        show Ends p e below s _ _ _ T444 (mkF m 66 #[rv a, iv ix, iv (0 : Int32), iv (1 : Int32)] [(.ref ai)])
        refine go (fun _ => XS.iloadN X444.here hx rfl (hb hby d7_66) rfl) ?_
        show Ends p e below s _ _ _ T444 (mkF m 67 #[rv a, iv ix, iv (0 : Int32), iv (1 : Int32)] [(.int (1 : Int32)), (.ref ai)])
        obtain ⟨cl445, A445, -, S445, M445, H445, -⟩ := id P4
        have B445 := inb_of S445 (j := (1 : Int32)) (by decide)
        refine go (fun _ => X444.iaload hx (j := (1 : Int32)) (v := (.int i1)) (by rw [e444]; exact A445.1) (State.isArrayOf_alike hZ.alike A445.2.1) A445.2.2 B445 (H445.at B445 rfl) (g := (mkF m 67 #[rv a, iv ix, iv (0 : Int32), iv (1 : Int32)] [(.int (1 : Int32)), (.ref ai)])) rfl rfl (hb hby d7_67) _) ?_
        show Ends p e below s _ _ _ T444 (mkF m 68 #[rv a, iv ix, iv (0 : Int32), iv (1 : Int32)] [(.int i1)])
        refine go (fun _ => XS.iloadN X444.here hx rfl (hb hby d7_68) rfl) ?_
        show Ends p e below s _ _ _ T444 (mkF m 69 #[rv a, iv ix, iv (0 : Int32), iv (1 : Int32)] [(.int ix), (.int i1)])
        by_cases c69_446 : i1 = ix
        · refine go (fun _ => XS.icmpNo X444.here hx rfl (hb hby d7_69) rfl (XT.ii_ne_f c69_446)) ?_
          show Ends p e below s _ _ _ T444 (mkF m 72 #[rv a, iv ix, iv (0 : Int32), iv (1 : Int32)] [])
          refine go (fun _ => XS.aloadN X444.here hx rfl (hb hby d7_72) rfl rfl) ?_
          refine go (fun _ => XS.iloadN X444.here hx rfl (hb hby d7_73) rfl) ?_
          show Ends p e below s _ _ _ T444 (mkF m 74 #[rv a, iv ix, iv (0 : Int32), iv (1 : Int32)] [(.int (1 : Int32)), (.ref a)])
          obtain ⟨T447, h447, X447, e447, W447, s447⟩ := putF X444 hx hZ hown (host := "") (Or.inl (hwi hw 26 rfl)) Via.refl e444 P3 E0 (Or.inl (hwi hw 27 rfl)) (hwi hw 1 rfl) (ty := .int) (by decide) rfl rfl (g := (mkF m 74 #[rv a, iv ix, iv (0 : Int32), iv (1 : Int32)] [(.int (1 : Int32)), (.ref a)])) rfl rfl (hb hby d7_74)
          have N447 := Fr.snoc X447 (Fr.nil _) f0
          have O448 : Ext Z.heap h447 := xw O0 W447 f0
          refine go s447 ?_
          show Ends p e below s _ _ _ T447 (mkF m 77 #[rv a, iv ix, iv (0 : Int32), iv (1 : Int32)] [])
          refine go (fun _ => XS.iloadN X447.here hx rfl (hb hby d7_77) rfl) ?_
          show Ends p e below s _ _ _ T447 (mkF m 78 #[rv a, iv ix, iv (0 : Int32), iv (1 : Int32)] [(.int (1 : Int32))])
          have K449 : Keep h0 h447 [a] := (Keep.wr (Keep.refl _ _) W447 (Or.inl (List.mem_of_getElem? (i := 0) rfl)))
          have F450 := (Fld.other W447 P0 (Or.inr (slot_ne (a0 := a0) (Or.inl (hwi hw 12 rfl)) (Or.inl (hwi hw 27 rfl)) (by decide) (t := (.array .int)) (t' := .int) (by decide) (by decide))))
          have F451 := (Fld.other W447 P1 (Or.inr (slot_ne (a0 := a0) (Or.inl (hwi hw 16 rfl)) (Or.inl (hwi hw 27 rfl)) (by decide) (t := (.array .long)) (t' := .int) (by decide) (by decide))))
          have F452 := (Fld.other W447 P2 (Or.inr (slot_ne (a0 := a0) (Or.inl (hwi hw 29 rfl)) (Or.inl (hwi hw 27 rfl)) (by decide) (t := .int) (t' := .int) (by decide) (by decide))))
          have F453 := (Fld.same W447 P3)
          exact endI X447 hx hlk hret (hb hby d7_78) e447 (Or.inr (Or.inr (Or.inr (Or.inl ⟨rfl, N447, c69_446, K449, F450, F451, F452, F453⟩)))) (by decide) (by decide)
        · refine go (fun _ => XS.icmpYes X444.here hx rfl (pc0 := 69) (pc' := 79) rfl (hb hby d7_69) rfl (XT.ii_ne_t c69_446) (by decide) (by decide)) ?_
          show Ends p e below s _ _ _ T444 (mkF m 79 #[rv a, iv ix, iv (0 : Int32), iv (1 : Int32)] [])
          refine go (fun _ => XS.goto X444.here hx rfl (pc0 := 79) (pc' := 101) rfl (hb hby d7_79) (by decide) (by decide)) ?_
          show Ends p e below s _ _ _ T444 (mkF m 101 #[rv a, iv ix, iv (0 : Int32), iv (1 : Int32)] [])
          have t454 := own_gt c20_433 c34_439
          have t455 := own_gt c54_443 c69_446
          refine go (fun _ => XS.aloadN X444.here hx rfl (hb hby d7_101) rfl rfl) ?_
          show Ends p e below s _ _ _ T444 (mkF m 102 #[rv a, iv ix, iv (0 : Int32), iv (1 : Int32)] [(.ref a)])
          obtain ⟨T456, X456, e456, s456⟩ := getF X444 hx hZ hown (host := "") (Or.inl (hwi hw 11 rfl)) Via.refl e444 P0 (g := (mkF m 102 #[rv a, iv ix, iv (0 : Int32), iv (1 : Int32)] [(.ref a)])) rfl rfl (hb hby d7_102)
          refine go s456 ?_
          show Ends p e below s _ _ _ T456 (mkF m 105 #[rv a, iv ix, iv (0 : Int32), iv (1 : Int32)] [(.ref ai)])
          refine go (fun _ => XT.iconstV X456.here hx rfl (0 : Int32) (hb hby d7_105) (by decide)) ?_
          refine go (fun _ => XS.aloadN X456.here hx rfl (hb hby d7_106) rfl rfl) ?_
          show Ends p e below s _ _ _ T456 (mkF m 107 #[rv a, iv ix, iv (0 : Int32), iv (1 : Int32)] [(.ref a), (.int (0 : Int32)), (.ref ai)])
          obtain ⟨T457, X457, e457, s457⟩ := getF X456 hx hZ hown (host := "") (Or.inl (hwi hw 28 rfl)) Via.refl e456 P2 (g := (mkF m 107 #[rv a, iv ix, iv (0 : Int32), iv (1 : Int32)] [(.ref a), (.int (0 : Int32)), (.ref ai)])) rfl rfl (hb hby d7_107)
          refine go s457 ?_
          show Ends p e below s _ _ _ T457 (mkF m 110 #[rv a, iv ix, iv (0 : Int32), iv (1 : Int32)] [(.int (2 : Int32)), (.int (0 : Int32)), (.ref ai)])
          refine go (fun _ => XS.iloadN X457.here hx rfl (hb hby d7_110) rfl) ?_
          show Ends p e below s _ _ _ T457 (mkF m 111 #[rv a, iv ix, iv (0 : Int32), iv (1 : Int32)] [(.int ix), (.int (2 : Int32)), (.int (0 : Int32)), (.ref ai)])
          refine cStat X457 hx hZ hown (by rw [hml]; rfl) e457 (hwi hw 69 rfl) (hwi hw 70 rfl) (hwi hw 44 rfl) (hwi hw 71 rfl) [(.ref ai), (.int (0 : Int32)), (.int (2 : Int32)), (.int ix)] [] rfl (rm_bs2 hw ai ki i0 i1 ix _ P4 t454 t455) (hb hby d7_111) rfl (lenOf pd_7 rfl) (by decide) (by decide) (Nat.le_of_ble_eq_true rfl) (by decide) (by decide) ?_
          rintro v458 T458 h458 L458 X458 e458 ⟨rfl, N458, rfl⟩
          have N458a := Fr.app (Fr.nil _) N458
          show Ends p e below s _ _ _ T458 (mkF m 114 #[rv a, iv ix, iv (0 : Int32), iv (1 : Int32)] [(.int (-3 : Int32))])
          refine go (fun _ => XS.istoreN X458.here hx rfl (hb hby d7_114) rfl (l' := #[rv a, iv ix, iv (-3 : Int32), iv (1 : Int32)]) rfl) ?_
          refine go (fun _ => XS.iloadN X458.here hx rfl (hb hby d7_115) rfl) ?_
          show Ends p e below s _ _ _ T458 (mkF m 116 #[rv a, iv ix, iv (-3 : Int32), iv (1 : Int32)] [(.int (-3 : Int32))])
          refine go (fun _ => XS.ifYes X458.here hx rfl (pc0 := 116) (pc' := 124) rfl (hb hby d7_116) rfl (XT.i0_lt_t ((by decide) : (-3 : Int32) < (0 : Int32))) (by decide) (by decide)) ?_
          show Ends p e below s _ _ _ T458 (mkF m 124 #[rv a, iv ix, iv (-3 : Int32), iv (1 : Int32)] [])
          refine go (fun _ => XS.iloadN X458.here hx rfl (hb hby d7_124) rfl) ?_
          show Ends p e below s _ _ _ T458 (mkF m 125 #[rv a, iv ix, iv (-3 : Int32), iv (1 : Int32)] [(.int (-3 : Int32))])
          exact endI X458 hx hlk hret (hb hby d7_125) e458 (Or.inr (Or.inr (Or.inr (Or.inr (⟨rfl, N458a, ⟨t454, t455⟩, rfl⟩))))) (by decide) (by decide)
set_option maxRecDepth 65536 in
set_option maxHeartbeats 40000000 in
theorem rm_set0 {l : Launch} {Z : State} {a0 : Array Value} (hw : ∀ d ∈ tables_1, d.before a0 Z = true) (a ai aw : Addr) (ki kw : ClassId)  (b : Int32) (h0 : Heap) (O0 : Ext Z.heap h0) (f0 : Z.heap.size ≤ a) (E0 : Exa Z h0 a "com/example/libtbox/libtbox/core/SparseBitSet") (P0 : Fld Z h0 a "com/example/libtbox/libtbox/core/SparseBitSet" "indices" "[I" (.ref ai)) (P1 : Fld Z h0 a "com/example/libtbox/libtbox/core/SparseBitSet" "words" "[J" (.ref aw)) (P2 : Fld Z h0 a "com/example/libtbox/libtbox/core/SparseBitSet" "count" "I" (.int (0 : Int32))) (P3 : Fld Z h0 a "com/example/libtbox/libtbox/core/SparseBitSet" "lastFound" "I" (.int (0 : Int32))) (P4 : Arv Z h0 ai ki .int (0 : Int32) [] (.int 0)) (P5 : Arv Z h0 aw kw .long (0 : Int32) [] (.long 0)) (nai : a ≠ ai) (naw : a ≠ aw)  :
    Con l (⟨"com/example/libtbox/libtbox/core/SparseBitSet", "set", "(I)V"⟩ : MethodName) prog_51_method_4_code 4 none ({ frames := 4, cells := 2, slots := 4, locals := 61 } : Room) Z #[(.ref a), (.int b)] h0 (fun v h L => (v = none ∧ Fr Z.heap.size L ∧ ∃ (bi bw : Addr) (k1 k2 : ClassId), Keep h0 h [a] ∧ h0.size ≤ bi ∧ h0.size ≤ bw ∧ bi ≠ bw ∧ Fld Z h a "com/example/libtbox/libtbox/core/SparseBitSet" "indices" "[I" (.ref bi) ∧ Fld Z h a "com/example/libtbox/libtbox/core/SparseBitSet" "words" "[J" (.ref bw) ∧ Fld Z h a "com/example/libtbox/libtbox/core/SparseBitSet" "count" "I" (.int (1 : Int32)) ∧ Fld Z h a "com/example/libtbox/libtbox/core/SparseBitSet" "lastFound" "I" (.int (0 : Int32)) ∧ Arv Z h bi k1 .int (2 : Int32) [(.int (XT.ushr b (6 : Int32))), (.int (0 : Int32))] (.int 0) ∧ Arv Z h bw k2 .long (2 : Int32) [(.long ((0 : Int64) ||| ((1 : Int64) <<< (b.toInt64 &&& 63)))), (.long (0 : Int64))] (.long 0))) := by
  refine Con.of (plainFor_of_name pn_0) (Ls := #[rv a, iv b, .unset, .unset]) (fun m => efOf rfl) ?_
  intro p e s m below meth c T0 X0 hx hZ hby hml hown hnm hret hlk e0
  refine go (fun _ => XS.iloadN X0.here hx rfl (hb hby d11_0) rfl) ?_
  refine go (fun _ => XT.bipushV X0.here hx rfl (6 : Int32) (hb hby d11_1) (by decide)) ?_
  refine go (fun _ => XT.iushr X0.here hx rfl (hb hby d11_3) rfl) ?_
  refine go (fun _ => XS.istoreN X0.here hx rfl (hb hby d11_4) rfl (l' := #[rv a, iv b, iv (XT.ushr b (6 : Int32)), .unset]) rfl) ?_
  refine go (fun _ => XS.aloadN X0.here hx rfl (hb hby d11_5) rfl rfl) ?_
  refine go (fun _ => XS.iloadN X0.here hx rfl (hb hby d11_6) rfl) ?_
  show Ends p e below s _ _ _ T0 (mkF m 7 #[rv a, iv b, iv (XT.ushr b (6 : Int32)), .unset] [(.int (XT.ushr b (6 : Int32))), (.ref a)])
  refine cPriv X0 hx hZ hown (by rw [hml]; rfl) e0 (hwi hw 22 rfl) (hwi hw 23 rfl) (hwi hw 24 rfl) (hwi hw 1 rfl) (hwi hw 2 rfl) (hwi hw 25 rfl) a E0 [(.int (XT.ushr b (6 : Int32)))] [] rfl (rm_pos0 hw a ai aw ki kw  (XT.ushr b (6 : Int32)) _ O0 f0 E0 P0 P1 P2 P3 P4 P5 nai naw) (hb hby d11_7) rfl (lenOf pd_8 rfl) (by decide) (by decide) (Nat.le_of_ble_eq_true rfl) (by decide) (by decide) ?_
  rintro v459 T459 h459 L459 X459 e459 ⟨rfl, N459, rfl⟩
  have N459a := Fr.app (Fr.nil _) N459
  show Ends p e below s _ _ _ T459 (mkF m 10 #[rv a, iv b, iv (XT.ushr b (6 : Int32)), .unset] [(.int (-1 : Int32))])
  refine go (fun _ => XS.istoreN X459.here hx rfl (hb hby d11_10) rfl (l' := #[rv a, iv b, iv (XT.ushr b (6 : Int32)), iv (-1 : Int32)]) rfl) ?_
  refine go (fun _ => XS.iloadN X459.here hx rfl (hb hby d11_11) rfl) ?_
  show Ends p e below s _ _ _ T459 (mkF m 12 #[rv a, iv b, iv (XT.ushr b (6 : Int32)), iv (-1 : Int32)] [(.int (-1 : Int32))])
  refine go (fun _ => XS.ifNo X459.here hx rfl (hb hby d11_12) rfl (XT.i0_ge_f ((by decide) : (-1 : Int32) < (0 : Int32)))) ?_
  show Ends p e below s _ _ _ T459 (mkF m 15 #[rv a, iv b, iv (XT.ushr b (6 : Int32)), iv (-1 : Int32)] [])
  refine go (fun _ => XS.iloadN X459.here hx rfl (hb hby d11_15) rfl) ?_
  show Ends p e below s _ _ _ T459 (mkF m 16 #[rv a, iv b, iv (XT.ushr b (6 : Int32)), iv (-1 : Int32)] [(.int (-1 : Int32))])
  refine go (fun _ => XS.ineg X459.here hx rfl (hb hby d11_16) rfl) ?_
  show Ends p e below s _ _ _ T459 (mkF m 17 #[rv a, iv b, iv (XT.ushr b (6 : Int32)), iv (-1 : Int32)] [(.int (1 : Int32))])
  refine go (fun _ => XT.iconstV X459.here hx rfl (1 : Int32) (hb hby d11_17) (by decide)) ?_
  refine go (fun _ => XS.isub X459.here hx rfl (hb hby d11_18) rfl) ?_
  refine go (fun _ => XS.istoreN X459.here hx rfl (hb hby d11_19) rfl (l' := #[rv a, iv b, iv (XT.ushr b (6 : Int32)), iv (0 : Int32)]) rfl) ?_
  refine go (fun _ => XS.aloadN X459.here hx rfl (hb hby d11_20) rfl rfl) ?_
  refine go (fun _ => XS.iloadN X459.here hx rfl (hb hby d11_21) rfl) ?_
  refine go (fun _ => XS.iloadN X459.here hx rfl (hb hby d11_22) rfl) ?_
  show Ends p e below s _ _ _ T459 (mkF m 23 #[rv a, iv b, iv (XT.ushr b (6 : Int32)), iv (0 : Int32)] [(.int (XT.ushr b (6 : Int32))), (.int (0 : Int32)), (.ref a)])
  refine cPriv X459 hx hZ hown (by rw [hml]; rfl) e459 (hwi hw 30 rfl) (hwi hw 31 rfl) (hwi hw 32 rfl) (hwi hw 1 rfl) (hwi hw 2 rfl) (hwi hw 33 rfl) a E0 [(.int (0 : Int32)), (.int (XT.ushr b (6 : Int32)))] [] rfl (rm_ins0_0 hw a ai aw ki kw  (XT.ushr b (6 : Int32)) _ O0 f0 E0 P0 P1 P2 P3 P4 P5 nai naw) (hb hby d11_23) rfl (lenOf pd_9 rfl) (by decide) (by decide) (Nat.le_of_ble_eq_true rfl) (by decide) (by decide) ?_
  rintro v460 T460 h460 L460 X460 e460 ⟨rfl, N460, ⟨bi460, bw460, k1460, k2460, K460, ga460, gb460, nn460, Q460_0, Q460_1, Q460_2, Q460_3, Q460_4, Q460_5⟩⟩
  have N460a := Fr.app N459a N460
  have n461 : a ≠ bi460 := Nat.ne_of_lt (Nat.lt_of_lt_of_le (E0.lt) ga460)
  have n462 : ai ≠ bi460 := Nat.ne_of_lt (Nat.lt_of_lt_of_le (P4.lt) ga460)
  have n463 : aw ≠ bi460 := Nat.ne_of_lt (Nat.lt_of_lt_of_le (P5.lt) ga460)
  have f464 : Z.heap.size ≤ bi460 := Nat.le_trans (O0).1 ga460
  have K465 : Keep h0 h0 [a] := (Keep.refl _ _)
  have b464 : h0.size ≤ bi460 := Nat.le_trans (K465).1 ga460
  have n466 : a ≠ bw460 := Nat.ne_of_lt (Nat.lt_of_lt_of_le (E0.lt) gb460)
  have n467 : ai ≠ bw460 := Nat.ne_of_lt (Nat.lt_of_lt_of_le (P4.lt) gb460)
  have n468 : aw ≠ bw460 := Nat.ne_of_lt (Nat.lt_of_lt_of_le (P5.lt) gb460)
  have f469 : Z.heap.size ≤ bw460 := Nat.le_trans (O0).1 gb460
  have b469 : h0.size ≤ bw460 := Nat.le_trans (K465).1 gb460
  have O470 : Ext Z.heap h460 := xk O0 K460 (allS f0 all0)
  show Ends p e below s _ _ _ T460 (mkF m 26 #[rv a, iv b, iv (XT.ushr b (6 : Int32)), iv (0 : Int32)] [])
  refine go (fun _ => XS.aloadN X460.here hx rfl (hb hby d11_26) rfl rfl) ?_
  show Ends p e below s _ _ _ T460 (mkF m 27 #[rv a, iv b, iv (XT.ushr b (6 : Int32)), iv (0 : Int32)] [(.ref a)])
  obtain ⟨T471, X471, e471, s471⟩ := getF X460 hx hZ hown (host := "") (Or.inl (hwi hw 15 rfl)) Via.refl e460 Q460_1 (g := (mkF m 27 #[rv a, iv b, iv (XT.ushr b (6 : Int32)), iv (0 : Int32)] [(.ref a)])) rfl rfl (hb hby d11_27)
  refine go s471 ?_
  show Ends p e below s _ _ _ T471 (mkF m 30 #[rv a, iv b, iv (XT.ushr b (6 : Int32)), iv (0 : Int32)] [(.ref bw460)])
  refine go (fun _ => XS.iloadN X471.here hx rfl (hb hby d11_30) rfl) ?_
  refine go (fun _ => XT.dup2 X471.here hx rfl (hb hby d11_31) rfl rfl rfl) ?_
  show Ends p e below s _ _ _ T471 (mkF m 32 #[rv a, iv b, iv (XT.ushr b (6 : Int32)), iv (0 : Int32)] [(.int (0 : Int32)), (.ref bw460), (.int (0 : Int32)), (.ref bw460)])
  obtain ⟨cl472, A472, -, S472, M472, H472, -⟩ := id Q460_5
  have B472 := inb_of S472 (j := (0 : Int32)) (by decide)
  refine go (fun _ => X471.laload hx (j := (0 : Int32)) (v := (.long (0 : Int64))) (by rw [e471]; exact A472.1) (State.isArrayOf_alike hZ.alike A472.2.1) A472.2.2 B472 (H472.at B472 rfl) (g := (mkF m 32 #[rv a, iv b, iv (XT.ushr b (6 : Int32)), iv (0 : Int32)] [(.int (0 : Int32)), (.ref bw460), (.int (0 : Int32)), (.ref bw460)])) rfl rfl (hb hby d11_32) _) ?_
  show Ends p e below s _ _ _ T471 (mkF m 33 #[rv a, iv b, iv (XT.ushr b (6 : Int32)), iv (0 : Int32)] [(.long (0 : Int64)), (.int (0 : Int32)), (.ref bw460)])
  refine go (fun _ => XT.lconstV X471.here hx rfl (1 : Int64) (hb hby d11_33) (by decide)) ?_
  refine go (fun _ => XS.iloadN X471.here hx rfl (hb hby d11_34) rfl) ?_
  refine go (fun _ => XT.lshl X471.here hx rfl (hb hby d11_35) rfl) ?_
  refine go (fun _ => XT.lor X471.here hx rfl (hb hby d11_36) rfl) ?_
  show Ends p e below s _ _ _ T471 (mkF m 37 #[rv a, iv b, iv (XT.ushr b (6 : Int32)), iv (0 : Int32)] [(.long ((0 : Int64) ||| ((1 : Int64) <<< (b.toInt64 &&& 63)))), (.int (0 : Int32)), (.ref bw460)])
  obtain ⟨cl473, A473, q473, S473, M473, H473, G473⟩ := id Q460_5
  obtain ⟨T473, h473, X473, e473, W473, s473⟩ := stJ X471 hx hZ e471 A473 (j := (0 : Int32)) (inb_of S473 (by decide)) (g := (mkF m 37 #[rv a, iv b, iv (XT.ushr b (6 : Int32)), iv (0 : Int32)] [(.long ((0 : Int64) ||| ((1 : Int64) <<< (b.toInt64 &&& 63)))), (.int (0 : Int32)), (.ref bw460)])) rfl rfl (hb hby d11_37)
  have N473 := Fr.snoc X473 N460a f469
  have O474 : Ext Z.heap h473 := xw O470 W473 f469
  have V473 : Arv Z h473 bw460 k2460 .long (2 : Int32) [(.long ((0 : Int64) ||| ((1 : Int64) <<< (b.toInt64 &&& 63)))), (.long (0 : Int64))] (.long 0) := Arv.set A473 q473 S473 M473 H473 G473 rfl W473 0 (by decide) (Nat.le_of_ble_eq_true rfl)
  refine go s473 ?_
  show Ends p e below s _ _ _ T473 (mkF m 38 #[rv a, iv b, iv (XT.ushr b (6 : Int32)), iv (0 : Int32)] [])
  have F475 := (Fld.other W473 Q460_0 (Or.inl n466))
  have F476 := (Fld.other W473 Q460_1 (Or.inl n466))
  have F477 := (Fld.other W473 Q460_2 (Or.inl n466))
  have F478 := (Fld.other W473 Q460_3 (Or.inl n466))
  have F479 := (Arv.other Q460_4 W473 nn460)
  have K480 : Keep h0 h473 [a] := (Keep.wr (Keep.trans K465 K460 (allS (Or.inl (List.mem_of_getElem? (i := 0) rfl)) all0)) W473 (Or.inr b469))
  exact endV X473 hx hlk hret (hb hby d11_38) e473 (⟨rfl, N473, ⟨bi460, bw460, _, _, K480, b464, b469, nn460, F475, F476, F477, F478, F479, V473⟩⟩) (by decide) (by decide)
set_option maxRecDepth 65536 in
set_option maxHeartbeats 40000000 in
theorem rm_set1 {l : Launch} {Z : State} {a0 : Array Value} (hw : ∀ d ∈ tables_1, d.before a0 Z = true) (a ai aw : Addr) (ki kw : ClassId) (i0 : Int32) (w0 : Int64) (b : Int32) (h0 : Heap) (O0 : Ext Z.heap h0) (f0 : Z.heap.size ≤ a) (E0 : Exa Z h0 a "com/example/libtbox/libtbox/core/SparseBitSet") (P0 : Fld Z h0 a "com/example/libtbox/libtbox/core/SparseBitSet" "indices" "[I" (.ref ai)) (P1 : Fld Z h0 a "com/example/libtbox/libtbox/core/SparseBitSet" "words" "[J" (.ref aw)) (P2 : Fld Z h0 a "com/example/libtbox/libtbox/core/SparseBitSet" "count" "I" (.int (1 : Int32))) (P3 : Fld Z h0 a "com/example/libtbox/libtbox/core/SparseBitSet" "lastFound" "I" (.int (0 : Int32))) (P4 : Arv Z h0 ai ki .int (2 : Int32) [(.int i0), (.int (0 : Int32))] (.int 0)) (P5 : Arv Z h0 aw kw .long (2 : Int32) [(.long w0), (.long (0 : Int64))] (.long 0)) (fi : Z.heap.size ≤ ai) (fw : Z.heap.size ≤ aw) (nai : a ≠ ai) (naw : a ≠ aw) (niw : ai ≠ aw)  :
    Con l (⟨"com/example/libtbox/libtbox/core/SparseBitSet", "set", "(I)V"⟩ : MethodName) prog_51_method_4_code 4 none ({ frames := 2, cells := 0, slots := 0, locals := 32 } : Room) Z #[(.ref a), (.int b)] h0 (fun v h L => (v = none ∧ Fr Z.heap.size L ∧ ((XT.ushr b (6 : Int32)) < i0) ∧ Keep h0 h [a, ai, aw] ∧ Fld Z h a "com/example/libtbox/libtbox/core/SparseBitSet" "indices" "[I" (.ref ai) ∧ Fld Z h a "com/example/libtbox/libtbox/core/SparseBitSet" "words" "[J" (.ref aw) ∧ Fld Z h a "com/example/libtbox/libtbox/core/SparseBitSet" "count" "I" (.int (2 : Int32)) ∧ Fld Z h a "com/example/libtbox/libtbox/core/SparseBitSet" "lastFound" "I" (.int (0 : Int32)) ∧ Arv Z h ai ki .int (2 : Int32) [(.int (XT.ushr b (6 : Int32))), (.int i0)] (.int 0) ∧ Arv Z h aw kw .long (2 : Int32) [(.long ((0 : Int64) ||| ((1 : Int64) <<< (b.toInt64 &&& 63)))), (.long w0)] (.long 0)) ∨ (v = none ∧ Fr Z.heap.size L ∧ (i0 = (XT.ushr b (6 : Int32))) ∧ Keep h0 h [a, ai, aw] ∧ Fld Z h a "com/example/libtbox/libtbox/core/SparseBitSet" "indices" "[I" (.ref ai) ∧ Fld Z h a "com/example/libtbox/libtbox/core/SparseBitSet" "words" "[J" (.ref aw) ∧ Fld Z h a "com/example/libtbox/libtbox/core/SparseBitSet" "count" "I" (.int (1 : Int32)) ∧ Fld Z h a "com/example/libtbox/libtbox/core/SparseBitSet" "lastFound" "I" (.int (0 : Int32)) ∧ Arv Z h ai ki .int (2 : Int32) [(.int i0), (.int (0 : Int32))] (.int 0) ∧ Arv Z h aw kw .long (2 : Int32) [(.long (w0 ||| ((1 : Int64) <<< (b.toInt64 &&& 63)))), (.long (0 : Int64))] (.long 0)) ∨ (v = none ∧ Fr Z.heap.size L ∧ (i0 < (XT.ushr b (6 : Int32))) ∧ Keep h0 h [a, ai, aw] ∧ Fld Z h a "com/example/libtbox/libtbox/core/SparseBitSet" "indices" "[I" (.ref ai) ∧ Fld Z h a "com/example/libtbox/libtbox/core/SparseBitSet" "words" "[J" (.ref aw) ∧ Fld Z h a "com/example/libtbox/libtbox/core/SparseBitSet" "count" "I" (.int (2 : Int32)) ∧ Fld Z h a "com/example/libtbox/libtbox/core/SparseBitSet" "lastFound" "I" (.int (0 : Int32)) ∧ Arv Z h ai ki .int (2 : Int32) [(.int i0), (.int (XT.ushr b (6 : Int32)))] (.int 0) ∧ Arv Z h aw kw .long (2 : Int32) [(.long w0), (.long ((0 : Int64) ||| ((1 : Int64) <<< (b.toInt64 &&& 63))))] (.long 0))) := by
  refine Con.of (plainFor_of_name pn_0) (Ls := #[rv a, iv b, .unset, .unset]) (fun m => efOf rfl) ?_
  intro p e s m below meth c T0 X0 hx hZ hby hml hown hnm hret hlk e0
  refine go (fun _ => XS.iloadN X0.here hx rfl (hb hby d11_0) rfl) ?_
  refine go (fun _ => XT.bipushV X0.here hx rfl (6 : Int32) (hb hby d11_1) (by decide)) ?_
  refine go (fun _ => XT.iushr X0.here hx rfl (hb hby d11_3) rfl) ?_
  refine go (fun _ => XS.istoreN X0.here hx rfl (hb hby d11_4) rfl (l' := #[rv a, iv b, iv (XT.ushr b (6 : Int32)), .unset]) rfl) ?_
  refine go (fun _ => XS.aloadN X0.here hx rfl (hb hby d11_5) rfl rfl) ?_
  refine go (fun _ => XS.iloadN X0.here hx rfl (hb hby d11_6) rfl) ?_
  show Ends p e below s _ _ _ T0 (mkF m 7 #[rv a, iv b, iv (XT.ushr b (6 : Int32)), .unset] [(.int (XT.ushr b (6 : Int32))), (.ref a)])
  refine cPriv X0 hx hZ hown (by rw [hml]; rfl) e0 (hwi hw 22 rfl) (hwi hw 23 rfl) (hwi hw 24 rfl) (hwi hw 1 rfl) (hwi hw 2 rfl) (hwi hw 25 rfl) a E0 [(.int (XT.ushr b (6 : Int32)))] [] rfl (rm_pos1 hw a ai aw ki kw i0 w0 (XT.ushr b (6 : Int32)) _ O0 f0 E0 P0 P1 P2 P3 P4 P5 fi fw nai naw niw) (hb hby d11_7) rfl (lenOf pd_8 rfl) (by decide) (by decide) (Nat.le_of_ble_eq_true rfl) (by decide) (by decide) ?_
  rintro v481 T481 h481 L481 X481 e481 (⟨rfl, N481, cq481, rfl⟩ | ⟨rfl, N481, cq481, rfl⟩ | ⟨rfl, N481, cq481, rfl⟩)
  · have N481a := Fr.app (Fr.nil _) N481
    show Ends p e below s _ _ _ T481 (mkF m 10 #[rv a, iv b, iv (XT.ushr b (6 : Int32)), .unset] [(.int (-1 : Int32))])
    refine go (fun _ => XS.istoreN X481.here hx rfl (hb hby d11_10) rfl (l' := #[rv a, iv b, iv (XT.ushr b (6 : Int32)), iv (-1 : Int32)]) rfl) ?_
    refine go (fun _ => XS.iloadN X481.here hx rfl (hb hby d11_11) rfl) ?_
    show Ends p e below s _ _ _ T481 (mkF m 12 #[rv a, iv b, iv (XT.ushr b (6 : Int32)), iv (-1 : Int32)] [(.int (-1 : Int32))])
    refine go (fun _ => XS.ifNo X481.here hx rfl (hb hby d11_12) rfl (XT.i0_ge_f ((by decide) : (-1 : Int32) < (0 : Int32)))) ?_
    show Ends p e below s _ _ _ T481 (mkF m 15 #[rv a, iv b, iv (XT.ushr b (6 : Int32)), iv (-1 : Int32)] [])
    refine go (fun _ => XS.iloadN X481.here hx rfl (hb hby d11_15) rfl) ?_
    show Ends p e below s _ _ _ T481 (mkF m 16 #[rv a, iv b, iv (XT.ushr b (6 : Int32)), iv (-1 : Int32)] [(.int (-1 : Int32))])
    refine go (fun _ => XS.ineg X481.here hx rfl (hb hby d11_16) rfl) ?_
    show Ends p e below s _ _ _ T481 (mkF m 17 #[rv a, iv b, iv (XT.ushr b (6 : Int32)), iv (-1 : Int32)] [(.int (1 : Int32))])
    refine go (fun _ => XT.iconstV X481.here hx rfl (1 : Int32) (hb hby d11_17) (by decide)) ?_
    refine go (fun _ => XS.isub X481.here hx rfl (hb hby d11_18) rfl) ?_
    refine go (fun _ => XS.istoreN X481.here hx rfl (hb hby d11_19) rfl (l' := #[rv a, iv b, iv (XT.ushr b (6 : Int32)), iv (0 : Int32)]) rfl) ?_
    refine go (fun _ => XS.aloadN X481.here hx rfl (hb hby d11_20) rfl rfl) ?_
    refine go (fun _ => XS.iloadN X481.here hx rfl (hb hby d11_21) rfl) ?_
    refine go (fun _ => XS.iloadN X481.here hx rfl (hb hby d11_22) rfl) ?_
    show Ends p e below s _ _ _ T481 (mkF m 23 #[rv a, iv b, iv (XT.ushr b (6 : Int32)), iv (0 : Int32)] [(.int (XT.ushr b (6 : Int32))), (.int (0 : Int32)), (.ref a)])
    refine cPriv X481 hx hZ hown (by rw [hml]; rfl) e481 (hwi hw 30 rfl) (hwi hw 31 rfl) (hwi hw 32 rfl) (hwi hw 1 rfl) (hwi hw 2 rfl) (hwi hw 33 rfl) a E0 [(.int (0 : Int32)), (.int (XT.ushr b (6 : Int32)))] [] rfl (rm_ins1_0 hw a ai aw ki kw i0 w0 (XT.ushr b (6 : Int32)) _ O0 f0 E0 P0 P1 P2 P3 P4 P5 fi fw nai naw niw) (hb hby d11_23) rfl (lenOf pd_9 rfl) (by decide) (by decide) (Nat.le_of_ble_eq_true rfl) (by decide) (by decide) ?_
    rintro v482 T482 h482 L482 X482 e482 ⟨rfl, N482, ⟨K482, Q482_0, Q482_1, Q482_2, Q482_3, Q482_4, Q482_5⟩⟩
    have N482a := Fr.app N481a N482
    have O483 : Ext Z.heap h482 := xk O0 K482 (allS f0 (allS fi (allS fw all0)))
    show Ends p e below s _ _ _ T482 (mkF m 26 #[rv a, iv b, iv (XT.ushr b (6 : Int32)), iv (0 : Int32)] [])
    refine go (fun _ => XS.aloadN X482.here hx rfl (hb hby d11_26) rfl rfl) ?_
    show Ends p e below s _ _ _ T482 (mkF m 27 #[rv a, iv b, iv (XT.ushr b (6 : Int32)), iv (0 : Int32)] [(.ref a)])
    obtain ⟨T484, X484, e484, s484⟩ := getF X482 hx hZ hown (host := "") (Or.inl (hwi hw 15 rfl)) Via.refl e482 Q482_1 (g := (mkF m 27 #[rv a, iv b, iv (XT.ushr b (6 : Int32)), iv (0 : Int32)] [(.ref a)])) rfl rfl (hb hby d11_27)
    refine go s484 ?_
    show Ends p e below s _ _ _ T484 (mkF m 30 #[rv a, iv b, iv (XT.ushr b (6 : Int32)), iv (0 : Int32)] [(.ref aw)])
    refine go (fun _ => XS.iloadN X484.here hx rfl (hb hby d11_30) rfl) ?_
    refine go (fun _ => XT.dup2 X484.here hx rfl (hb hby d11_31) rfl rfl rfl) ?_
    show Ends p e below s _ _ _ T484 (mkF m 32 #[rv a, iv b, iv (XT.ushr b (6 : Int32)), iv (0 : Int32)] [(.int (0 : Int32)), (.ref aw), (.int (0 : Int32)), (.ref aw)])
    obtain ⟨cl485, A485, -, S485, M485, H485, -⟩ := id Q482_5
    have B485 := inb_of S485 (j := (0 : Int32)) (by decide)
    refine go (fun _ => X484.laload hx (j := (0 : Int32)) (v := (.long (0 : Int64))) (by rw [e484]; exact A485.1) (State.isArrayOf_alike hZ.alike A485.2.1) A485.2.2 B485 (H485.at B485 rfl) (g := (mkF m 32 #[rv a, iv b, iv (XT.ushr b (6 : Int32)), iv (0 : Int32)] [(.int (0 : Int32)), (.ref aw), (.int (0 : Int32)), (.ref aw)])) rfl rfl (hb hby d11_32) _) ?_
    show Ends p e below s _ _ _ T484 (mkF m 33 #[rv a, iv b, iv (XT.ushr b (6 : Int32)), iv (0 : Int32)] [(.long (0 : Int64)), (.int (0 : Int32)), (.ref aw)])
    refine go (fun _ => XT.lconstV X484.here hx rfl (1 : Int64) (hb hby d11_33) (by decide)) ?_
    refine go (fun _ => XS.iloadN X484.here hx rfl (hb hby d11_34) rfl) ?_
    refine go (fun _ => XT.lshl X484.here hx rfl (hb hby d11_35) rfl) ?_
    refine go (fun _ => XT.lor X484.here hx rfl (hb hby d11_36) rfl) ?_
    show Ends p e below s _ _ _ T484 (mkF m 37 #[rv a, iv b, iv (XT.ushr b (6 : Int32)), iv (0 : Int32)] [(.long ((0 : Int64) ||| ((1 : Int64) <<< (b.toInt64 &&& 63)))), (.int (0 : Int32)), (.ref aw)])
    obtain ⟨cl486, A486, q486, S486, M486, H486, G486⟩ := id Q482_5
    obtain ⟨T486, h486, X486, e486, W486, s486⟩ := stJ X484 hx hZ e484 A486 (j := (0 : Int32)) (inb_of S486 (by decide)) (g := (mkF m 37 #[rv a, iv b, iv (XT.ushr b (6 : Int32)), iv (0 : Int32)] [(.long ((0 : Int64) ||| ((1 : Int64) <<< (b.toInt64 &&& 63)))), (.int (0 : Int32)), (.ref aw)])) rfl rfl (hb hby d11_37)
    have N486 := Fr.snoc X486 N482a fw
    have O487 : Ext Z.heap h486 := xw O483 W486 fw
    have V486 : Arv Z h486 aw kw .long (2 : Int32) [(.long ((0 : Int64) ||| ((1 : Int64) <<< (b.toInt64 &&& 63)))), (.long w0)] (.long 0) := Arv.set A486 q486 S486 M486 H486 G486 rfl W486 0 (by decide) (Nat.le_of_ble_eq_true rfl)
    refine go s486 ?_
    show Ends p e below s _ _ _ T486 (mkF m 38 #[rv a, iv b, iv (XT.ushr b (6 : Int32)), iv (0 : Int32)] [])
    have F488 := (Fld.other W486 Q482_0 (Or.inl naw))
    have F489 := (Fld.other W486 Q482_1 (Or.inl naw))
    have F490 := (Fld.other W486 Q482_2 (Or.inl naw))
    have F491 := (Fld.other W486 Q482_3 (Or.inl naw))
    have F492 := (Arv.other Q482_4 W486 niw)
    have K493 : Keep h0 h486 [a, ai, aw] := (Keep.wr (Keep.trans (Keep.refl _ _) K482 (allS (Or.inl (List.mem_of_getElem? (i := 0) rfl)) (allS (Or.inl (List.mem_of_getElem? (i := 1) rfl)) (allS (Or.inl (List.mem_of_getElem? (i := 2) rfl)) all0)))) W486 (Or.inl (List.mem_of_getElem? (i := 2) rfl)))
    exact endV X486 hx hlk hret (hb hby d11_38) e486 (Or.inl ⟨rfl, N486, cq481, ⟨K493, F488, F489, F490, F491, F492, V486⟩⟩) (by decide) (by decide)
  · have N481a := Fr.app (Fr.nil _) N481
    show Ends p e below s _ _ _ T481 (mkF m 10 #[rv a, iv b, iv (XT.ushr b (6 : Int32)), .unset] [(.int (0 : Int32))])
    refine go (fun _ => XS.istoreN X481.here hx rfl (hb hby d11_10) rfl (l' := #[rv a, iv b, iv (XT.ushr b (6 : Int32)), iv (0 : Int32)]) rfl) ?_
    refine go (fun _ => XS.iloadN X481.here hx rfl (hb hby d11_11) rfl) ?_
    show Ends p e below s _ _ _ T481 (mkF m 12 #[rv a, iv b, iv (XT.ushr b (6 : Int32)), iv (0 : Int32)] [(.int (0 : Int32))])
    refine go (fun _ => XS.ifYes X481.here hx rfl (pc0 := 12) (pc' := 26) rfl (hb hby d11_12) rfl (XT.i0_ge_t ((by decide) : ¬ ((0 : Int32) < (0 : Int32)))) (by decide) (by decide)) ?_
    show Ends p e below s _ _ _ T481 (mkF m 26 #[rv a, iv b, iv (XT.ushr b (6 : Int32)), iv (0 : Int32)] [])
    refine go (fun _ => XS.aloadN X481.here hx rfl (hb hby d11_26) rfl rfl) ?_
    show Ends p e below s _ _ _ T481 (mkF m 27 #[rv a, iv b, iv (XT.ushr b (6 : Int32)), iv (0 : Int32)] [(.ref a)])
    obtain ⟨T494, X494, e494, s494⟩ := getF X481 hx hZ hown (host := "") (Or.inl (hwi hw 15 rfl)) Via.refl e481 P1 (g := (mkF m 27 #[rv a, iv b, iv (XT.ushr b (6 : Int32)), iv (0 : Int32)] [(.ref a)])) rfl rfl (hb hby d11_27)
    refine go s494 ?_
    show Ends p e below s _ _ _ T494 (mkF m 30 #[rv a, iv b, iv (XT.ushr b (6 : Int32)), iv (0 : Int32)] [(.ref aw)])
    refine go (fun _ => XS.iloadN X494.here hx rfl (hb hby d11_30) rfl) ?_
    refine go (fun _ => XT.dup2 X494.here hx rfl (hb hby d11_31) rfl rfl rfl) ?_
    show Ends p e below s _ _ _ T494 (mkF m 32 #[rv a, iv b, iv (XT.ushr b (6 : Int32)), iv (0 : Int32)] [(.int (0 : Int32)), (.ref aw), (.int (0 : Int32)), (.ref aw)])
    obtain ⟨cl495, A495, -, S495, M495, H495, -⟩ := id P5
    have B495 := inb_of S495 (j := (0 : Int32)) (by decide)
    refine go (fun _ => X494.laload hx (j := (0 : Int32)) (v := (.long w0)) (by rw [e494]; exact A495.1) (State.isArrayOf_alike hZ.alike A495.2.1) A495.2.2 B495 (H495.at B495 rfl) (g := (mkF m 32 #[rv a, iv b, iv (XT.ushr b (6 : Int32)), iv (0 : Int32)] [(.int (0 : Int32)), (.ref aw), (.int (0 : Int32)), (.ref aw)])) rfl rfl (hb hby d11_32) _) ?_
    show Ends p e below s _ _ _ T494 (mkF m 33 #[rv a, iv b, iv (XT.ushr b (6 : Int32)), iv (0 : Int32)] [(.long w0), (.int (0 : Int32)), (.ref aw)])
    refine go (fun _ => XT.lconstV X494.here hx rfl (1 : Int64) (hb hby d11_33) (by decide)) ?_
    refine go (fun _ => XS.iloadN X494.here hx rfl (hb hby d11_34) rfl) ?_
    refine go (fun _ => XT.lshl X494.here hx rfl (hb hby d11_35) rfl) ?_
    refine go (fun _ => XT.lor X494.here hx rfl (hb hby d11_36) rfl) ?_
    show Ends p e below s _ _ _ T494 (mkF m 37 #[rv a, iv b, iv (XT.ushr b (6 : Int32)), iv (0 : Int32)] [(.long (w0 ||| ((1 : Int64) <<< (b.toInt64 &&& 63)))), (.int (0 : Int32)), (.ref aw)])
    obtain ⟨cl496, A496, q496, S496, M496, H496, G496⟩ := id P5
    obtain ⟨T496, h496, X496, e496, W496, s496⟩ := stJ X494 hx hZ e494 A496 (j := (0 : Int32)) (inb_of S496 (by decide)) (g := (mkF m 37 #[rv a, iv b, iv (XT.ushr b (6 : Int32)), iv (0 : Int32)] [(.long (w0 ||| ((1 : Int64) <<< (b.toInt64 &&& 63)))), (.int (0 : Int32)), (.ref aw)])) rfl rfl (hb hby d11_37)
    have N496 := Fr.snoc X496 N481a fw
    have O497 : Ext Z.heap h496 := xw O0 W496 fw
    have V496 : Arv Z h496 aw kw .long (2 : Int32) [(.long (w0 ||| ((1 : Int64) <<< (b.toInt64 &&& 63)))), (.long (0 : Int64))] (.long 0) := Arv.set A496 q496 S496 M496 H496 G496 rfl W496 0 (by decide) (Nat.le_of_ble_eq_true rfl)
    refine go s496 ?_
    show Ends p e below s _ _ _ T496 (mkF m 38 #[rv a, iv b, iv (XT.ushr b (6 : Int32)), iv (0 : Int32)] [])
    have F498 := (Fld.other W496 P0 (Or.inl naw))
    have F499 := (Fld.other W496 P1 (Or.inl naw))
    have F500 := (Fld.other W496 P2 (Or.inl naw))
    have F501 := (Fld.other W496 P3 (Or.inl naw))
    have F502 := (Arv.other P4 W496 niw)
    have K503 : Keep h0 h496 [a, ai, aw] := (Keep.wr (Keep.refl _ _) W496 (Or.inl (List.mem_of_getElem? (i := 2) rfl)))
    exact endV X496 hx hlk hret (hb hby d11_38) e496 (Or.inr (Or.inl ⟨rfl, N496, cq481, ⟨K503, F498, F499, F500, F501, F502, V496⟩⟩)) (by decide) (by decide)
  · have N481a := Fr.app (Fr.nil _) N481
    show Ends p e below s _ _ _ T481 (mkF m 10 #[rv a, iv b, iv (XT.ushr b (6 : Int32)), .unset] [(.int (-2 : Int32))])
    refine go (fun _ => XS.istoreN X481.here hx rfl (hb hby d11_10) rfl (l' := #[rv a, iv b, iv (XT.ushr b (6 : Int32)), iv (-2 : Int32)]) rfl) ?_
    refine go (fun _ => XS.iloadN X481.here hx rfl (hb hby d11_11) rfl) ?_
    show Ends p e below s _ _ _ T481 (mkF m 12 #[rv a, iv b, iv (XT.ushr b (6 : Int32)), iv (-2 : Int32)] [(.int (-2 : Int32))])
    refine go (fun _ => XS.ifNo X481.here hx rfl (hb hby d11_12) rfl (XT.i0_ge_f ((by decide) : (-2 : Int32) < (0 : Int32)))) ?_
    show Ends p e below s _ _ _ T481 (mkF m 15 #[rv a, iv b, iv (XT.ushr b (6 : Int32)), iv (-2 : Int32)] [])
    refine go (fun _ => XS.iloadN X481.here hx rfl (hb hby d11_15) rfl) ?_
    show Ends p e below s _ _ _ T481 (mkF m 16 #[rv a, iv b, iv (XT.ushr b (6 : Int32)), iv (-2 : Int32)] [(.int (-2 : Int32))])
    refine go (fun _ => XS.ineg X481.here hx rfl (hb hby d11_16) rfl) ?_
    show Ends p e below s _ _ _ T481 (mkF m 17 #[rv a, iv b, iv (XT.ushr b (6 : Int32)), iv (-2 : Int32)] [(.int (2 : Int32))])
    refine go (fun _ => XT.iconstV X481.here hx rfl (1 : Int32) (hb hby d11_17) (by decide)) ?_
    refine go (fun _ => XS.isub X481.here hx rfl (hb hby d11_18) rfl) ?_
    refine go (fun _ => XS.istoreN X481.here hx rfl (hb hby d11_19) rfl (l' := #[rv a, iv b, iv (XT.ushr b (6 : Int32)), iv (1 : Int32)]) rfl) ?_
    refine go (fun _ => XS.aloadN X481.here hx rfl (hb hby d11_20) rfl rfl) ?_
    refine go (fun _ => XS.iloadN X481.here hx rfl (hb hby d11_21) rfl) ?_
    refine go (fun _ => XS.iloadN X481.here hx rfl (hb hby d11_22) rfl) ?_
    show Ends p e below s _ _ _ T481 (mkF m 23 #[rv a, iv b, iv (XT.ushr b (6 : Int32)), iv (1 : Int32)] [(.int (XT.ushr b (6 : Int32))), (.int (1 : Int32)), (.ref a)])
    refine cPriv X481 hx hZ hown (by rw [hml]; rfl) e481 (hwi hw 30 rfl) (hwi hw 31 rfl) (hwi hw 32 rfl) (hwi hw 1 rfl) (hwi hw 2 rfl) (hwi hw 33 rfl) a E0 [(.int (1 : Int32)), (.int (XT.ushr b (6 : Int32)))] [] rfl (rm_ins1_1 hw a ai aw ki kw i0 w0 (XT.ushr b (6 : Int32)) _ O0 f0 E0 P0 P1 P2 P3 P4 P5 fi fw nai naw niw) (hb hby d11_23) rfl (lenOf pd_9 rfl) (by decide) (by decide) (Nat.le_of_ble_eq_true rfl) (by decide) (by decide) ?_
    rintro v504 T504 h504 L504 X504 e504 ⟨rfl, N504, ⟨K504, Q504_0, Q504_1, Q504_2, Q504_3, Q504_4, Q504_5⟩⟩
    have N504a := Fr.app N481a N504
    have O505 : Ext Z.heap h504 := xk O0 K504 (allS f0 (allS fi (allS fw all0)))
    show Ends p e below s _ _ _ T504 (mkF m 26 #[rv a, iv b, iv (XT.ushr b (6 : Int32)), iv (1 : Int32)] [])
    refine go (fun _ => XS.aloadN X504.here hx rfl (hb hby d11_26) rfl rfl) ?_
    show Ends p e below s _ _ _ T504 (mkF m 27 #[rv a, iv b, iv (XT.ushr b (6 : Int32)), iv (1 : Int32)] [(.ref a)])
    obtain ⟨T506, X506, e506, s506⟩ := getF X504 hx hZ hown (host := "") (Or.inl (hwi hw 15 rfl)) Via.refl e504 Q504_1 (g := (mkF m 27 #[rv a, iv b, iv (XT.ushr b (6 : Int32)), iv (1 : Int32)] [(.ref a)])) rfl rfl (hb hby d11_27)
    refine go s506 ?_
    show Ends p e below s _ _ _ T506 (mkF m 30 #[rv a, iv b, iv (XT.ushr b (6 : Int32)), iv (1 : Int32)] [(.ref aw)])
    refine go (fun _ => XS.iloadN X506.here hx rfl (hb hby d11_30) rfl) ?_
    refine go (fun _ => XT.dup2 X506.here hx rfl (hb hby d11_31) rfl rfl rfl) ?_
    show Ends p e below s _ _ _ T506 (mkF m 32 #[rv a, iv b, iv (XT.ushr b (6 : Int32)), iv (1 : Int32)] [(.int (1 : Int32)), (.ref aw), (.int (1 : Int32)), (.ref aw)])
    obtain ⟨cl507, A507, -, S507, M507, H507, -⟩ := id Q504_5
    have B507 := inb_of S507 (j := (1 : Int32)) (by decide)
    refine go (fun _ => X506.laload hx (j := (1 : Int32)) (v := (.long (0 : Int64))) (by rw [e506]; exact A507.1) (State.isArrayOf_alike hZ.alike A507.2.1) A507.2.2 B507 (H507.at B507 rfl) (g := (mkF m 32 #[rv a, iv b, iv (XT.ushr b (6 : Int32)), iv (1 : Int32)] [(.int (1 : Int32)), (.ref aw), (.int (1 : Int32)), (.ref aw)])) rfl rfl (hb hby d11_32) _) ?_
    show Ends p e below s _ _ _ T506 (mkF m 33 #[rv a, iv b, iv (XT.ushr b (6 : Int32)), iv (1 : Int32)] [(.long (0 : Int64)), (.int (1 : Int32)), (.ref aw)])
    refine go (fun _ => XT.lconstV X506.here hx rfl (1 : Int64) (hb hby d11_33) (by decide)) ?_
    refine go (fun _ => XS.iloadN X506.here hx rfl (hb hby d11_34) rfl) ?_
    refine go (fun _ => XT.lshl X506.here hx rfl (hb hby d11_35) rfl) ?_
    refine go (fun _ => XT.lor X506.here hx rfl (hb hby d11_36) rfl) ?_
    show Ends p e below s _ _ _ T506 (mkF m 37 #[rv a, iv b, iv (XT.ushr b (6 : Int32)), iv (1 : Int32)] [(.long ((0 : Int64) ||| ((1 : Int64) <<< (b.toInt64 &&& 63)))), (.int (1 : Int32)), (.ref aw)])
    obtain ⟨cl508, A508, q508, S508, M508, H508, G508⟩ := id Q504_5
    obtain ⟨T508, h508, X508, e508, W508, s508⟩ := stJ X506 hx hZ e506 A508 (j := (1 : Int32)) (inb_of S508 (by decide)) (g := (mkF m 37 #[rv a, iv b, iv (XT.ushr b (6 : Int32)), iv (1 : Int32)] [(.long ((0 : Int64) ||| ((1 : Int64) <<< (b.toInt64 &&& 63)))), (.int (1 : Int32)), (.ref aw)])) rfl rfl (hb hby d11_37)
    have N508 := Fr.snoc X508 N504a fw
    have O509 : Ext Z.heap h508 := xw O505 W508 fw
    have V508 : Arv Z h508 aw kw .long (2 : Int32) [(.long w0), (.long ((0 : Int64) ||| ((1 : Int64) <<< (b.toInt64 &&& 63))))] (.long 0) := Arv.set A508 q508 S508 M508 H508 G508 rfl W508 1 (by decide) (Nat.le_of_ble_eq_true rfl)
    refine go s508 ?_
    show Ends p e below s _ _ _ T508 (mkF m 38 #[rv a, iv b, iv (XT.ushr b (6 : Int32)), iv (1 : Int32)] [])
    have F510 := (Fld.other W508 Q504_0 (Or.inl naw))
    have F511 := (Fld.other W508 Q504_1 (Or.inl naw))
    have F512 := (Fld.other W508 Q504_2 (Or.inl naw))
    have F513 := (Fld.other W508 Q504_3 (Or.inl naw))
    have F514 := (Arv.other Q504_4 W508 niw)
    have K515 : Keep h0 h508 [a, ai, aw] := (Keep.wr (Keep.trans (Keep.refl _ _) K504 (allS (Or.inl (List.mem_of_getElem? (i := 0) rfl)) (allS (Or.inl (List.mem_of_getElem? (i := 1) rfl)) (allS (Or.inl (List.mem_of_getElem? (i := 2) rfl)) all0)))) W508 (Or.inl (List.mem_of_getElem? (i := 2) rfl)))
    exact endV X508 hx hlk hret (hb hby d11_38) e508 (Or.inr (Or.inr (⟨rfl, N508, cq481, ⟨K515, F510, F511, F512, F513, F514, V508⟩⟩))) (by decide) (by decide)
set_option maxRecDepth 65536 in
set_option maxHeartbeats 40000000 in
theorem rm_set2 {l : Launch} {Z : State} {a0 : Array Value} (hw : ∀ d ∈ tables_1, d.before a0 Z = true) (a ai aw : Addr) (ki kw : ClassId) (i0 i1 : Int32) (w0 w1 : Int64) (b : Int32) (h0 : Heap) (O0 : Ext Z.heap h0) (f0 : Z.heap.size ≤ a) (E0 : Exa Z h0 a "com/example/libtbox/libtbox/core/SparseBitSet") (P0 : Fld Z h0 a "com/example/libtbox/libtbox/core/SparseBitSet" "indices" "[I" (.ref ai)) (P1 : Fld Z h0 a "com/example/libtbox/libtbox/core/SparseBitSet" "words" "[J" (.ref aw)) (P2 : Fld Z h0 a "com/example/libtbox/libtbox/core/SparseBitSet" "count" "I" (.int (2 : Int32))) (P3 : Fld Z h0 a "com/example/libtbox/libtbox/core/SparseBitSet" "lastFound" "I" (.int (0 : Int32))) (P4 : Arv Z h0 ai ki .int (2 : Int32) [(.int i0), (.int i1)] (.int 0)) (P5 : Arv Z h0 aw kw .long (2 : Int32) [(.long w0), (.long w1)] (.long 0)) (fi : Z.heap.size ≤ ai) (fw : Z.heap.size ≤ aw) (nai : a ≠ ai) (naw : a ≠ aw) (niw : ai ≠ aw)  :
    Con l (⟨"com/example/libtbox/libtbox/core/SparseBitSet", "set", "(I)V"⟩ : MethodName) prog_51_method_4_code 4 none ({ frames := 4, cells := 2, slots := 8, locals := 61 } : Room) Z #[(.ref a), (.int b)] h0 (fun v h L => (v = none ∧ Fr Z.heap.size L ∧ ((XT.ushr b (6 : Int32)) < i0) ∧ ∃ (bi bw : Addr) (k1 k2 : ClassId), Keep h0 h [a, ai, aw] ∧ h0.size ≤ bi ∧ h0.size ≤ bw ∧ bi ≠ bw ∧ Fld Z h a "com/example/libtbox/libtbox/core/SparseBitSet" "indices" "[I" (.ref bi) ∧ Fld Z h a "com/example/libtbox/libtbox/core/SparseBitSet" "words" "[J" (.ref bw) ∧ Fld Z h a "com/example/libtbox/libtbox/core/SparseBitSet" "count" "I" (.int (3 : Int32)) ∧ Fld Z h a "com/example/libtbox/libtbox/core/SparseBitSet" "lastFound" "I" (.int (0 : Int32)) ∧ Arv Z h bi k1 .int (4 : Int32) [(.int (XT.ushr b (6 : Int32))), (.int i0), (.int i1), (.int (0 : Int32))] (.int 0) ∧ Arv Z h bw k2 .long (4 : Int32) [(.long ((0 : Int64) ||| ((1 : Int64) <<< (b.toInt64 &&& 63)))), (.long w0), (.long w1), (.long (0 : Int64))] (.long 0)) ∨ (v = none ∧ Fr Z.heap.size L ∧ (i0 = (XT.ushr b (6 : Int32))) ∧ Keep h0 h [a, ai, aw] ∧ Fld Z h a "com/example/libtbox/libtbox/core/SparseBitSet" "indices" "[I" (.ref ai) ∧ Fld Z h a "com/example/libtbox/libtbox/core/SparseBitSet" "words" "[J" (.ref aw) ∧ Fld Z h a "com/example/libtbox/libtbox/core/SparseBitSet" "count" "I" (.int (2 : Int32)) ∧ Fld Z h a "com/example/libtbox/libtbox/core/SparseBitSet" "lastFound" "I" (.int (0 : Int32)) ∧ Arv Z h ai ki .int (2 : Int32) [(.int i0), (.int i1)] (.int 0) ∧ Arv Z h aw kw .long (2 : Int32) [(.long (w0 ||| ((1 : Int64) <<< (b.toInt64 &&& 63)))), (.long w1)] (.long 0)) ∨ (v = none ∧ Fr Z.heap.size L ∧ (i0 < (XT.ushr b (6 : Int32)) ∧ (XT.ushr b (6 : Int32)) < i1) ∧ ∃ (bi bw : Addr) (k1 k2 : ClassId), Keep h0 h [a, ai, aw] ∧ h0.size ≤ bi ∧ h0.size ≤ bw ∧ bi ≠ bw ∧ Fld Z h a "com/example/libtbox/libtbox/core/SparseBitSet" "indices" "[I" (.ref bi) ∧ Fld Z h a "com/example/libtbox/libtbox/core/SparseBitSet" "words" "[J" (.ref bw) ∧ Fld Z h a "com/example/libtbox/libtbox/core/SparseBitSet" "count" "I" (.int (3 : Int32)) ∧ Fld Z h a "com/example/libtbox/libtbox/core/SparseBitSet" "lastFound" "I" (.int (0 : Int32)) ∧ Arv Z h bi k1 .int (4 : Int32) [(.int i0), (.int (XT.ushr b (6 : Int32))), (.int i1), (.int (0 : Int32))] (.int 0) ∧ Arv Z h bw k2 .long (4 : Int32) [(.long w0), (.long ((0 : Int64) ||| ((1 : Int64) <<< (b.toInt64 &&& 63)))), (.long w1), (.long (0 : Int64))] (.long 0)) ∨ (v = none ∧ Fr Z.heap.size L ∧ (i1 = (XT.ushr b (6 : Int32))) ∧ Keep h0 h [a, ai, aw] ∧ Fld Z h a "com/example/libtbox/libtbox/core/SparseBitSet" "indices" "[I" (.ref ai) ∧ Fld Z h a "com/example/libtbox/libtbox/core/SparseBitSet" "words" "[J" (.ref aw) ∧ Fld Z h a "com/example/libtbox/libtbox/core/SparseBitSet" "count" "I" (.int (2 : Int32)) ∧ Fld Z h a "com/example/libtbox/libtbox/core/SparseBitSet" "lastFound" "I" (.int (1 : Int32)) ∧ Arv Z h ai ki .int (2 : Int32) [(.int i0), (.int i1)] (.int 0) ∧ Arv Z h aw kw .long (2 : Int32) [(.long w0), (.long (w1 ||| ((1 : Int64) <<< (b.toInt64 &&& 63))))] (.long 0)) ∨ (v = none ∧ Fr Z.heap.size L ∧ (i0 < (XT.ushr b (6 : Int32)) ∧ i1 < (XT.ushr b (6 : Int32))) ∧ ∃ (bi bw : Addr) (k1 k2 : ClassId), Keep h0 h [a, ai, aw] ∧ h0.size ≤ bi ∧ h0.size ≤ bw ∧ bi ≠ bw ∧ Fld Z h a "com/example/libtbox/libtbox/core/SparseBitSet" "indices" "[I" (.ref bi) ∧ Fld Z h a "com/example/libtbox/libtbox/core/SparseBitSet" "words" "[J" (.ref bw) ∧ Fld Z h a "com/example/libtbox/libtbox/core/SparseBitSet" "count" "I" (.int (3 : Int32)) ∧ Fld Z h a "com/example/libtbox/libtbox/core/SparseBitSet" "lastFound" "I" (.int (0 : Int32)) ∧ Arv Z h bi k1 .int (4 : Int32) [(.int i0), (.int i1), (.int (XT.ushr b (6 : Int32))), (.int (0 : Int32))] (.int 0) ∧ Arv Z h bw k2 .long (4 : Int32) [(.long w0), (.long w1), (.long ((0 : Int64) ||| ((1 : Int64) <<< (b.toInt64 &&& 63)))), (.long (0 : Int64))] (.long 0))) := by
  refine Con.of (plainFor_of_name pn_0) (Ls := #[rv a, iv b, .unset, .unset]) (fun m => efOf rfl) ?_
  intro p e s m below meth c T0 X0 hx hZ hby hml hown hnm hret hlk e0
  refine go (fun _ => XS.iloadN X0.here hx rfl (hb hby d11_0) rfl) ?_
  refine go (fun _ => XT.bipushV X0.here hx rfl (6 : Int32) (hb hby d11_1) (by decide)) ?_
  refine go (fun _ => XT.iushr X0.here hx rfl (hb hby d11_3) rfl) ?_
  refine go (fun _ => XS.istoreN X0.here hx rfl (hb hby d11_4) rfl (l' := #[rv a, iv b, iv (XT.ushr b (6 : Int32)), .unset]) rfl) ?_
  refine go (fun _ => XS.aloadN X0.here hx rfl (hb hby d11_5) rfl rfl) ?_
  refine go (fun _ => XS.iloadN X0.here hx rfl (hb hby d11_6) rfl) ?_
  show Ends p e below s _ _ _ T0 (mkF m 7 #[rv a, iv b, iv (XT.ushr b (6 : Int32)), .unset] [(.int (XT.ushr b (6 : Int32))), (.ref a)])
  refine cPriv X0 hx hZ hown (by rw [hml]; rfl) e0 (hwi hw 22 rfl) (hwi hw 23 rfl) (hwi hw 24 rfl) (hwi hw 1 rfl) (hwi hw 2 rfl) (hwi hw 25 rfl) a E0 [(.int (XT.ushr b (6 : Int32)))] [] rfl (rm_pos2 hw a ai aw ki kw i0 i1 w0 w1 (XT.ushr b (6 : Int32)) _ O0 f0 E0 P0 P1 P2 P3 P4 P5 fi fw nai naw niw) (hb hby d11_7) rfl (lenOf pd_8 rfl) (by decide) (by decide) (Nat.le_of_ble_eq_true rfl) (by decide) (by decide) ?_
  rintro v516 T516 h516 L516 X516 e516 (⟨rfl, N516, cq516, rfl⟩ | ⟨rfl, N516, cq516, rfl⟩ | ⟨rfl, N516, cq516, rfl⟩ | ⟨rfl, N516, cq516, K516, Q516_0, Q516_1, Q516_2, Q516_3⟩ | ⟨rfl, N516, cq516, rfl⟩)
  · have N516a := Fr.app (Fr.nil _) N516
    show Ends p e below s _ _ _ T516 (mkF m 10 #[rv a, iv b, iv (XT.ushr b (6 : Int32)), .unset] [(.int (-1 : Int32))])
    refine go (fun _ => XS.istoreN X516.here hx rfl (hb hby d11_10) rfl (l' := #[rv a, iv b, iv (XT.ushr b (6 : Int32)), iv (-1 : Int32)]) rfl) ?_
    refine go (fun _ => XS.iloadN X516.here hx rfl (hb hby d11_11) rfl) ?_
    show Ends p e below s _ _ _ T516 (mkF m 12 #[rv a, iv b, iv (XT.ushr b (6 : Int32)), iv (-1 : Int32)] [(.int (-1 : Int32))])
    refine go (fun _ => XS.ifNo X516.here hx rfl (hb hby d11_12) rfl (XT.i0_ge_f ((by decide) : (-1 : Int32) < (0 : Int32)))) ?_
    show Ends p e below s _ _ _ T516 (mkF m 15 #[rv a, iv b, iv (XT.ushr b (6 : Int32)), iv (-1 : Int32)] [])
    refine go (fun _ => XS.iloadN X516.here hx rfl (hb hby d11_15) rfl) ?_
    show Ends p e below s _ _ _ T516 (mkF m 16 #[rv a, iv b, iv (XT.ushr b (6 : Int32)), iv (-1 : Int32)] [(.int (-1 : Int32))])
    refine go (fun _ => XS.ineg X516.here hx rfl (hb hby d11_16) rfl) ?_
    show Ends p e below s _ _ _ T516 (mkF m 17 #[rv a, iv b, iv (XT.ushr b (6 : Int32)), iv (-1 : Int32)] [(.int (1 : Int32))])
    refine go (fun _ => XT.iconstV X516.here hx rfl (1 : Int32) (hb hby d11_17) (by decide)) ?_
    refine go (fun _ => XS.isub X516.here hx rfl (hb hby d11_18) rfl) ?_
    refine go (fun _ => XS.istoreN X516.here hx rfl (hb hby d11_19) rfl (l' := #[rv a, iv b, iv (XT.ushr b (6 : Int32)), iv (0 : Int32)]) rfl) ?_
    refine go (fun _ => XS.aloadN X516.here hx rfl (hb hby d11_20) rfl rfl) ?_
    refine go (fun _ => XS.iloadN X516.here hx rfl (hb hby d11_21) rfl) ?_
    refine go (fun _ => XS.iloadN X516.here hx rfl (hb hby d11_22) rfl) ?_
    show Ends p e below s _ _ _ T516 (mkF m 23 #[rv a, iv b, iv (XT.ushr b (6 : Int32)), iv (0 : Int32)] [(.int (XT.ushr b (6 : Int32))), (.int (0 : Int32)), (.ref a)])
    refine cPriv X516 hx hZ hown (by rw [hml]; rfl) e516 (hwi hw 30 rfl) (hwi hw 31 rfl) (hwi hw 32 rfl) (hwi hw 1 rfl) (hwi hw 2 rfl) (hwi hw 33 rfl) a E0 [(.int (0 : Int32)), (.int (XT.ushr b (6 : Int32)))] [] rfl (rm_ins2_0 hw a ai aw ki kw i0 i1 w0 w1 (XT.ushr b (6 : Int32)) _ O0 f0 E0 P0 P1 P2 P3 P4 P5 fi fw nai naw niw) (hb hby d11_23) rfl (lenOf pd_9 rfl) (by decide) (by decide) (Nat.le_of_ble_eq_true rfl) (by decide) (by decide) ?_
    rintro v517 T517 h517 L517 X517 e517 ⟨rfl, N517, ⟨bi517, bw517, k1517, k2517, K517, ga517, gb517, nn517, Q517_0, Q517_1, Q517_2, Q517_3, Q517_4, Q517_5⟩⟩
    have N517a := Fr.app N516a N517
    have n518 : a ≠ bi517 := Nat.ne_of_lt (Nat.lt_of_lt_of_le (E0.lt) ga517)
    have n519 : ai ≠ bi517 := Nat.ne_of_lt (Nat.lt_of_lt_of_le (P4.lt) ga517)
    have n520 : aw ≠ bi517 := Nat.ne_of_lt (Nat.lt_of_lt_of_le (P5.lt) ga517)
    have f521 : Z.heap.size ≤ bi517 := Nat.le_trans (O0).1 ga517
    have K522 : Keep h0 h0 [a, ai, aw] := (Keep.refl _ _)
    have b521 : h0.size ≤ bi517 := Nat.le_trans (K522).1 ga517
    have n523 : a ≠ bw517 := Nat.ne_of_lt (Nat.lt_of_lt_of_le (E0.lt) gb517)
    have n524 : ai ≠ bw517 := Nat.ne_of_lt (Nat.lt_of_lt_of_le (P4.lt) gb517)
    have n525 : aw ≠ bw517 := Nat.ne_of_lt (Nat.lt_of_lt_of_le (P5.lt) gb517)
    have f526 : Z.heap.size ≤ bw517 := Nat.le_trans (O0).1 gb517
    have b526 : h0.size ≤ bw517 := Nat.le_trans (K522).1 gb517
    have O527 : Ext Z.heap h517 := xk O0 K517 (allS f0 all0)
    show Ends p e below s _ _ _ T517 (mkF m 26 #[rv a, iv b, iv (XT.ushr b (6 : Int32)), iv (0 : Int32)] [])
    refine go (fun _ => XS.aloadN X517.here hx rfl (hb hby d11_26) rfl rfl) ?_
    show Ends p e below s _ _ _ T517 (mkF m 27 #[rv a, iv b, iv (XT.ushr b (6 : Int32)), iv (0 : Int32)] [(.ref a)])
    obtain ⟨T528, X528, e528, s528⟩ := getF X517 hx hZ hown (host := "") (Or.inl (hwi hw 15 rfl)) Via.refl e517 Q517_1 (g := (mkF m 27 #[rv a, iv b, iv (XT.ushr b (6 : Int32)), iv (0 : Int32)] [(.ref a)])) rfl rfl (hb hby d11_27)
    refine go s528 ?_
    show Ends p e below s _ _ _ T528 (mkF m 30 #[rv a, iv b, iv (XT.ushr b (6 : Int32)), iv (0 : Int32)] [(.ref bw517)])
    refine go (fun _ => XS.iloadN X528.here hx rfl (hb hby d11_30) rfl) ?_
    refine go (fun _ => XT.dup2 X528.here hx rfl (hb hby d11_31) rfl rfl rfl) ?_
    show Ends p e below s _ _ _ T528 (mkF m 32 #[rv a, iv b, iv (XT.ushr b (6 : Int32)), iv (0 : Int32)] [(.int (0 : Int32)), (.ref bw517), (.int (0 : Int32)), (.ref bw517)])
    obtain ⟨cl529, A529, -, S529, M529, H529, -⟩ := id Q517_5
    have B529 := inb_of S529 (j := (0 : Int32)) (by decide)
    refine go (fun _ => X528.laload hx (j := (0 : Int32)) (v := (.long (0 : Int64))) (by rw [e528]; exact A529.1) (State.isArrayOf_alike hZ.alike A529.2.1) A529.2.2 B529 (H529.at B529 rfl) (g := (mkF m 32 #[rv a, iv b, iv (XT.ushr b (6 : Int32)), iv (0 : Int32)] [(.int (0 : Int32)), (.ref bw517), (.int (0 : Int32)), (.ref bw517)])) rfl rfl (hb hby d11_32) _) ?_
    show Ends p e below s _ _ _ T528 (mkF m 33 #[rv a, iv b, iv (XT.ushr b (6 : Int32)), iv (0 : Int32)] [(.long (0 : Int64)), (.int (0 : Int32)), (.ref bw517)])
    refine go (fun _ => XT.lconstV X528.here hx rfl (1 : Int64) (hb hby d11_33) (by decide)) ?_
    refine go (fun _ => XS.iloadN X528.here hx rfl (hb hby d11_34) rfl) ?_
    refine go (fun _ => XT.lshl X528.here hx rfl (hb hby d11_35) rfl) ?_
    refine go (fun _ => XT.lor X528.here hx rfl (hb hby d11_36) rfl) ?_
    show Ends p e below s _ _ _ T528 (mkF m 37 #[rv a, iv b, iv (XT.ushr b (6 : Int32)), iv (0 : Int32)] [(.long ((0 : Int64) ||| ((1 : Int64) <<< (b.toInt64 &&& 63)))), (.int (0 : Int32)), (.ref bw517)])
    obtain ⟨cl530, A530, q530, S530, M530, H530, G530⟩ := id Q517_5
    obtain ⟨T530, h530, X530, e530, W530, s530⟩ := stJ X528 hx hZ e528 A530 (j := (0 : Int32)) (inb_of S530 (by decide)) (g := (mkF m 37 #[rv a, iv b, iv (XT.ushr b (6 : Int32)), iv (0 : Int32)] [(.long ((0 : Int64) ||| ((1 : Int64) <<< (b.toInt64 &&& 63)))), (.int (0 : Int32)), (.ref bw517)])) rfl rfl (hb hby d11_37)
    have N530 := Fr.snoc X530 N517a f526
    have O531 : Ext Z.heap h530 := xw O527 W530 f526
    have V530 : Arv Z h530 bw517 k2517 .long (4 : Int32) [(.long ((0 : Int64) ||| ((1 : Int64) <<< (b.toInt64 &&& 63)))), (.long w0), (.long w1), (.long (0 : Int64))] (.long 0) := Arv.set A530 q530 S530 M530 H530 G530 rfl W530 0 (by decide) (Nat.le_of_ble_eq_true rfl)
    refine go s530 ?_
    show Ends p e below s _ _ _ T530 (mkF m 38 #[rv a, iv b, iv (XT.ushr b (6 : Int32)), iv (0 : Int32)] [])
    have F532 := (Fld.other W530 Q517_0 (Or.inl n523))
    have F533 := (Fld.other W530 Q517_1 (Or.inl n523))
    have F534 := (Fld.other W530 Q517_2 (Or.inl n523))
    have F535 := (Fld.other W530 Q517_3 (Or.inl n523))
    have F536 := (Arv.other Q517_4 W530 nn517)
    have K537 : Keep h0 h530 [a, ai, aw] := (Keep.wr (Keep.trans K522 K517 (allS (Or.inl (List.mem_of_getElem? (i := 0) rfl)) all0)) W530 (Or.inr b526))
    exact endV X530 hx hlk hret (hb hby d11_38) e530 (Or.inl ⟨rfl, N530, cq516, ⟨bi517, bw517, _, _, K537, b521, b526, nn517, F532, F533, F534, F535, F536, V530⟩⟩) (by decide) (by decide)
  · have N516a := Fr.app (Fr.nil _) N516
    show Ends p e below s _ _ _ T516 (mkF m 10 #[rv a, iv b, iv (XT.ushr b (6 : Int32)), .unset] [(.int (0 : Int32))])
    refine go (fun _ => XS.istoreN X516.here hx rfl (hb hby d11_10) rfl (l' := #[rv a, iv b, iv (XT.ushr b (6 : Int32)), iv (0 : Int32)]) rfl) ?_
    refine go (fun _ => XS.iloadN X516.here hx rfl (hb hby d11_11) rfl) ?_
    show Ends p e below s _ _ _ T516 (mkF m 12 #[rv a, iv b, iv (XT.ushr b (6 : Int32)), iv (0 : Int32)] [(.int (0 : Int32))])
    refine go (fun _ => XS.ifYes X516.here hx rfl (pc0 := 12) (pc' := 26) rfl (hb hby d11_12) rfl (XT.i0_ge_t ((by decide) : ¬ ((0 : Int32) < (0 : Int32)))) (by decide) (by decide)) ?_
    show Ends p e below s _ _ _ T516 (mkF m 26 #[rv a, iv b, iv (XT.ushr b (6 : Int32)), iv (0 : Int32)] [])
    refine go (fun _ => XS.aloadN X516.here hx rfl (hb hby d11_26) rfl rfl) ?_
    show Ends p e below s _ _ _ T516 (mkF m 27 #[rv a, iv b, iv (XT.ushr b (6 : Int32)), iv (0 : Int32)] [(.ref a)])
    obtain ⟨T538, X538, e538, s538⟩ := getF X516 hx hZ hown (host := "") (Or.inl (hwi hw 15 rfl)) Via.refl e516 P1 (g := (mkF m 27 #[rv a, iv b, iv (XT.ushr b (6 : Int32)), iv (0 : Int32)] [(.ref a)])) rfl rfl (hb hby d11_27)
    refine go s538 ?_
    show Ends p e below s _ _ _ T538 (mkF m 30 #[rv a, iv b, iv (XT.ushr b (6 : Int32)), iv (0 : Int32)] [(.ref aw)])
    refine go (fun _ => XS.iloadN X538.here hx rfl (hb hby d11_30) rfl) ?_
    refine go (fun _ => XT.dup2 X538.here hx rfl (hb hby d11_31) rfl rfl rfl) ?_
    show Ends p e below s _ _ _ T538 (mkF m 32 #[rv a, iv b, iv (XT.ushr b (6 : Int32)), iv (0 : Int32)] [(.int (0 : Int32)), (.ref aw), (.int (0 : Int32)), (.ref aw)])
    obtain ⟨cl539, A539, -, S539, M539, H539, -⟩ := id P5
    have B539 := inb_of S539 (j := (0 : Int32)) (by decide)
    refine go (fun _ => X538.laload hx (j := (0 : Int32)) (v := (.long w0)) (by rw [e538]; exact A539.1) (State.isArrayOf_alike hZ.alike A539.2.1) A539.2.2 B539 (H539.at B539 rfl) (g := (mkF m 32 #[rv a, iv b, iv (XT.ushr b (6 : Int32)), iv (0 : Int32)] [(.int (0 : Int32)), (.ref aw), (.int (0 : Int32)), (.ref aw)])) rfl rfl (hb hby d11_32) _) ?_
    show Ends p e below s _ _ _ T538 (mkF m 33 #[rv a, iv b, iv (XT.ushr b (6 : Int32)), iv (0 : Int32)] [(.long w0), (.int (0 : Int32)), (.ref aw)])
    refine go (fun _ => XT.lconstV X538.here hx rfl (1 : Int64) (hb hby d11_33) (by decide)) ?_
    refine go (fun _ => XS.iloadN X538.here hx rfl (hb hby d11_34) rfl) ?_
    refine go (fun _ => XT.lshl X538.here hx rfl (hb hby d11_35) rfl) ?_
    refine go (fun _ => XT.lor X538.here hx rfl (hb hby d11_36) rfl) ?_
    show Ends p e below s _ _ _ T538 (mkF m 37 #[rv a, iv b, iv (XT.ushr b (6 : Int32)), iv (0 : Int32)] [(.long (w0 ||| ((1 : Int64) <<< (b.toInt64 &&& 63)))), (.int (0 : Int32)), (.ref aw)])
    obtain ⟨cl540, A540, q540, S540, M540, H540, G540⟩ := id P5
    obtain ⟨T540, h540, X540, e540, W540, s540⟩ := stJ X538 hx hZ e538 A540 (j := (0 : Int32)) (inb_of S540 (by decide)) (g := (mkF m 37 #[rv a, iv b, iv (XT.ushr b (6 : Int32)), iv (0 : Int32)] [(.long (w0 ||| ((1 : Int64) <<< (b.toInt64 &&& 63)))), (.int (0 : Int32)), (.ref aw)])) rfl rfl (hb hby d11_37)
    have N540 := Fr.snoc X540 N516a fw
    have O541 : Ext Z.heap h540 := xw O0 W540 fw
    have V540 : Arv Z h540 aw kw .long (2 : Int32) [(.long (w0 ||| ((1 : Int64) <<< (b.toInt64 &&& 63)))), (.long w1)] (.long 0) := Arv.set A540 q540 S540 M540 H540 G540 rfl W540 0 (by decide) (Nat.le_of_ble_eq_true rfl)
    refine go s540 ?_
    show Ends p e below s _ _ _ T540 (mkF m 38 #[rv a, iv b, iv (XT.ushr b (6 : Int32)), iv (0 : Int32)] [])
    have F542 := (Fld.other W540 P0 (Or.inl naw))
    have F543 := (Fld.other W540 P1 (Or.inl naw))
    have F544 := (Fld.other W540 P2 (Or.inl naw))
    have F545 := (Fld.other W540 P3 (Or.inl naw))
    have F546 := (Arv.other P4 W540 niw)
    have K547 : Keep h0 h540 [a, ai, aw] := (Keep.wr (Keep.refl _ _) W540 (Or.inl (List.mem_of_getElem? (i := 2) rfl)))
    exact endV X540 hx hlk hret (hb hby d11_38) e540 (Or.inr (Or.inl ⟨rfl, N540, cq516, ⟨K547, F542, F543, F544, F545, F546, V540⟩⟩)) (by decide) (by decide)
  · have N516a := Fr.app (Fr.nil _) N516
    show Ends p e below s _ _ _ T516 (mkF m 10 #[rv a, iv b, iv (XT.ushr b (6 : Int32)), .unset] [(.int (-2 : Int32))])
    refine go (fun _ => XS.istoreN X516.here hx rfl (hb hby d11_10) rfl (l' := #[rv a, iv b, iv (XT.ushr b (6 : Int32)), iv (-2 : Int32)]) rfl) ?_
    refine go (fun _ => XS.iloadN X516.here hx rfl (hb hby d11_11) rfl) ?_
    show Ends p e below s _ _ _ T516 (mkF m 12 #[rv a, iv b, iv (XT.ushr b (6 : Int32)), iv (-2 : Int32)] [(.int (-2 : Int32))])
    refine go (fun _ => XS.ifNo X516.here hx rfl (hb hby d11_12) rfl (XT.i0_ge_f ((by decide) : (-2 : Int32) < (0 : Int32)))) ?_
    show Ends p e below s _ _ _ T516 (mkF m 15 #[rv a, iv b, iv (XT.ushr b (6 : Int32)), iv (-2 : Int32)] [])
    refine go (fun _ => XS.iloadN X516.here hx rfl (hb hby d11_15) rfl) ?_
    show Ends p e below s _ _ _ T516 (mkF m 16 #[rv a, iv b, iv (XT.ushr b (6 : Int32)), iv (-2 : Int32)] [(.int (-2 : Int32))])
    refine go (fun _ => XS.ineg X516.here hx rfl (hb hby d11_16) rfl) ?_
    show Ends p e below s _ _ _ T516 (mkF m 17 #[rv a, iv b, iv (XT.ushr b (6 : Int32)), iv (-2 : Int32)] [(.int (2 : Int32))])
    refine go (fun _ => XT.iconstV X516.here hx rfl (1 : Int32) (hb hby d11_17) (by decide)) ?_
    refine go (fun _ => XS.isub X516.here hx rfl (hb hby d11_18) rfl) ?_
    refine go (fun _ => XS.istoreN X516.here hx rfl (hb hby d11_19) rfl (l' := #[rv a, iv b, iv (XT.ushr b (6 : Int32)), iv (1 : Int32)]) rfl) ?_
    refine go (fun _ => XS.aloadN X516.here hx rfl (hb hby d11_20) rfl rfl) ?_
    refine go (fun _ => XS.iloadN X516.here hx rfl (hb hby d11_21) rfl) ?_
    refine go (fun _ => XS.iloadN X516.here hx rfl (hb hby d11_22) rfl) ?_
    show Ends p e below s _ _ _ T516 (mkF m 23 #[rv a, iv b, iv (XT.ushr b (6 : Int32)), iv (1 : Int32)] [(.int (XT.ushr b (6 : Int32))), (.int (1 : Int32)), (.ref a)])
    refine cPriv X516 hx hZ hown (by rw [hml]; rfl) e516 (hwi hw 30 rfl) (hwi hw 31 rfl) (hwi hw 32 rfl) (hwi hw 1 rfl) (hwi hw 2 rfl) (hwi hw 33 rfl) a E0 [(.int (1 : Int32)), (.int (XT.ushr b (6 : Int32)))] [] rfl (rm_ins2_1 hw a ai aw ki kw i0 i1 w0 w1 (XT.ushr b (6 : Int32)) _ O0 f0 E0 P0 P1 P2 P3 P4 P5 fi fw nai naw niw) (hb hby d11_23) rfl (lenOf pd_9 rfl) (by decide) (by decide) (Nat.le_of_ble_eq_true rfl) (by decide) (by decide) ?_
    rintro v548 T548 h548 L548 X548 e548 ⟨rfl, N548, ⟨bi548, bw548, k1548, k2548, K548, ga548, gb548, nn548, Q548_0, Q548_1, Q548_2, Q548_3, Q548_4, Q548_5⟩⟩
    have N548a := Fr.app N516a N548
    have n549 : a ≠ bi548 := Nat.ne_of_lt (Nat.lt_of_lt_of_le (E0.lt) ga548)
    have n550 : ai ≠ bi548 := Nat.ne_of_lt (Nat.lt_of_lt_of_le (P4.lt) ga548)
    have n551 : aw ≠ bi548 := Nat.ne_of_lt (Nat.lt_of_lt_of_le (P5.lt) ga548)
    have f552 : Z.heap.size ≤ bi548 := Nat.le_trans (O0).1 ga548
    have K553 : Keep h0 h0 [a, ai, aw] := (Keep.refl _ _)
    have b552 : h0.size ≤ bi548 := Nat.le_trans (K553).1 ga548
    have n554 : a ≠ bw548 := Nat.ne_of_lt (Nat.lt_of_lt_of_le (E0.lt) gb548)
    have n555 : ai ≠ bw548 := Nat.ne_of_lt (Nat.lt_of_lt_of_le (P4.lt) gb548)
    have n556 : aw ≠ bw548 := Nat.ne_of_lt (Nat.lt_of_lt_of_le (P5.lt) gb548)
    have f557 : Z.heap.size ≤ bw548 := Nat.le_trans (O0).1 gb548
    have b557 : h0.size ≤ bw548 := Nat.le_trans (K553).1 gb548
    have O558 : Ext Z.heap h548 := xk O0 K548 (allS f0 all0)
    show Ends p e below s _ _ _ T548 (mkF m 26 #[rv a, iv b, iv (XT.ushr b (6 : Int32)), iv (1 : Int32)] [])
    refine go (fun _ => XS.aloadN X548.here hx rfl (hb hby d11_26) rfl rfl) ?_
    show Ends p e below s _ _ _ T548 (mkF m 27 #[rv a, iv b, iv (XT.ushr b (6 : Int32)), iv (1 : Int32)] [(.ref a)])
    obtain ⟨T559, X559, e559, s559⟩ := getF X548 hx hZ hown (host := "") (Or.inl (hwi hw 15 rfl)) Via.refl e548 Q548_1 (g := (mkF m 27 #[rv a, iv b, iv (XT.ushr b (6 : Int32)), iv (1 : Int32)] [(.ref a)])) rfl rfl (hb hby d11_27)
    refine go s559 ?_
    show Ends p e below s _ _ _ T559 (mkF m 30 #[rv a, iv b, iv (XT.ushr b (6 : Int32)), iv (1 : Int32)] [(.ref bw548)])
    refine go (fun _ => XS.iloadN X559.here hx rfl (hb hby d11_30) rfl) ?_
    refine go (fun _ => XT.dup2 X559.here hx rfl (hb hby d11_31) rfl rfl rfl) ?_
    show Ends p e below s _ _ _ T559 (mkF m 32 #[rv a, iv b, iv (XT.ushr b (6 : Int32)), iv (1 : Int32)] [(.int (1 : Int32)), (.ref bw548), (.int (1 : Int32)), (.ref bw548)])
    obtain ⟨cl560, A560, -, S560, M560, H560, -⟩ := id Q548_5
    have B560 := inb_of S560 (j := (1 : Int32)) (by decide)
    refine go (fun _ => X559.laload hx (j := (1 : Int32)) (v := (.long (0 : Int64))) (by rw [e559]; exact A560.1) (State.isArrayOf_alike hZ.alike A560.2.1) A560.2.2 B560 (H560.at B560 rfl) (g := (mkF m 32 #[rv a, iv b, iv (XT.ushr b (6 : Int32)), iv (1 : Int32)] [(.int (1 : Int32)), (.ref bw548), (.int (1 : Int32)), (.ref bw548)])) rfl rfl (hb hby d11_32) _) ?_
    show Ends p e below s _ _ _ T559 (mkF m 33 #[rv a, iv b, iv (XT.ushr b (6 : Int32)), iv (1 : Int32)] [(.long (0 : Int64)), (.int (1 : Int32)), (.ref bw548)])
    refine go (fun _ => XT.lconstV X559.here hx rfl (1 : Int64) (hb hby d11_33) (by decide)) ?_
    refine go (fun _ => XS.iloadN X559.here hx rfl (hb hby d11_34) rfl) ?_
    refine go (fun _ => XT.lshl X559.here hx rfl (hb hby d11_35) rfl) ?_
    refine go (fun _ => XT.lor X559.here hx rfl (hb hby d11_36) rfl) ?_
    show Ends p e below s _ _ _ T559 (mkF m 37 #[rv a, iv b, iv (XT.ushr b (6 : Int32)), iv (1 : Int32)] [(.long ((0 : Int64) ||| ((1 : Int64) <<< (b.toInt64 &&& 63)))), (.int (1 : Int32)), (.ref bw548)])
    obtain ⟨cl561, A561, q561, S561, M561, H561, G561⟩ := id Q548_5
    obtain ⟨T561, h561, X561, e561, W561, s561⟩ := stJ X559 hx hZ e559 A561 (j := (1 : Int32)) (inb_of S561 (by decide)) (g := (mkF m 37 #[rv a, iv b, iv (XT.ushr b (6 : Int32)), iv (1 : Int32)] [(.long ((0 : Int64) ||| ((1 : Int64) <<< (b.toInt64 &&& 63)))), (.int (1 : Int32)), (.ref bw548)])) rfl rfl (hb hby d11_37)
    have N561 := Fr.snoc X561 N548a f557
    have O562 : Ext Z.heap h561 := xw O558 W561 f557
    have V561 : Arv Z h561 bw548 k2548 .long (4 : Int32) [(.long w0), (.long ((0 : Int64) ||| ((1 : Int64) <<< (b.toInt64 &&& 63)))), (.long w1), (.long (0 : Int64))] (.long 0) := Arv.set A561 q561 S561 M561 H561 G561 rfl W561 1 (by decide) (Nat.le_of_ble_eq_true rfl)
    refine go s561 ?_
    show Ends p e below s _ _ _ T561 (mkF m 38 #[rv a, iv b, iv (XT.ushr b (6 : Int32)), iv (1 : Int32)] [])
    have F563 := (Fld.other W561 Q548_0 (Or.inl n554))
    have F564 := (Fld.other W561 Q548_1 (Or.inl n554))
    have F565 := (Fld.other W561 Q548_2 (Or.inl n554))
    have F566 := (Fld.other W561 Q548_3 (Or.inl n554))
    have F567 := (Arv.other Q548_4 W561 nn548)
    have K568 : Keep h0 h561 [a, ai, aw] := (Keep.wr (Keep.trans K553 K548 (allS (Or.inl (List.mem_of_getElem? (i := 0) rfl)) all0)) W561 (Or.inr b557))
    exact endV X561 hx hlk hret (hb hby d11_38) e561 (Or.inr (Or.inr (Or.inl ⟨rfl, N561, cq516, ⟨bi548, bw548, _, _, K568, b552, b557, nn548, F563, F564, F565, F566, F567, V561⟩⟩))) (by decide) (by decide)
  · have N516a := Fr.app (Fr.nil _) N516
    have O569 : Ext Z.heap h516 := xk O0 K516 (allS f0 all0)
    show Ends p e below s _ _ _ T516 (mkF m 10 #[rv a, iv b, iv (XT.ushr b (6 : Int32)), .unset] [(.int (1 : Int32))])
    refine go (fun _ => XS.istoreN X516.here hx rfl (hb hby d11_10) rfl (l' := #[rv a, iv b, iv (XT.ushr b (6 : Int32)), iv (1 : Int32)]) rfl) ?_
    refine go (fun _ => XS.iloadN X516.here hx rfl (hb hby d11_11) rfl) ?_
    show Ends p e below s _ _ _ T516 (mkF m 12 #[rv a, iv b, iv (XT.ushr b (6 : Int32)), iv (1 : Int32)] [(.int (1 : Int32))])
    refine go (fun _ => XS.ifYes X516.here hx rfl (pc0 := 12) (pc' := 26) rfl (hb hby d11_12) rfl (XT.i0_ge_t ((by decide) : ¬ ((1 : Int32) < (0 : Int32)))) (by decide) (by decide)) ?_
    show Ends p e below s _ _ _ T516 (mkF m 26 #[rv a, iv b, iv (XT.ushr b (6 : Int32)), iv (1 : Int32)] [])
    refine go (fun _ => XS.aloadN X516.here hx rfl (hb hby d11_26) rfl rfl) ?_
    show Ends p e below s _ _ _ T516 (mkF m 27 #[rv a, iv b, iv (XT.ushr b (6 : Int32)), iv (1 : Int32)] [(.ref a)])
    obtain ⟨T570, X570, e570, s570⟩ := getF X516 hx hZ hown (host := "") (Or.inl (hwi hw 15 rfl)) Via.refl e516 Q516_1 (g := (mkF m 27 #[rv a, iv b, iv (XT.ushr b (6 : Int32)), iv (1 : Int32)] [(.ref a)])) rfl rfl (hb hby d11_27)
    refine go s570 ?_
    show Ends p e below s _ _ _ T570 (mkF m 30 #[rv a, iv b, iv (XT.ushr b (6 : Int32)), iv (1 : Int32)] [(.ref aw)])
    refine go (fun _ => XS.iloadN X570.here hx rfl (hb hby d11_30) rfl) ?_
    refine go (fun _ => XT.dup2 X570.here hx rfl (hb hby d11_31) rfl rfl rfl) ?_
    show Ends p e below s _ _ _ T570 (mkF m 32 #[rv a, iv b, iv (XT.ushr b (6 : Int32)), iv (1 : Int32)] [(.int (1 : Int32)), (.ref aw), (.int (1 : Int32)), (.ref aw)])
    have F571 := (Arv.keep P5 K516 (ninS (Ne.symm naw) nin0))
    obtain ⟨cl572, A572, -, S572, M572, H572, -⟩ := id F571
    have B572 := inb_of S572 (j := (1 : Int32)) (by decide)
    refine go (fun _ => X570.laload hx (j := (1 : Int32)) (v := (.long w1)) (by rw [e570]; exact A572.1) (State.isArrayOf_alike hZ.alike A572.2.1) A572.2.2 B572 (H572.at B572 rfl) (g := (mkF m 32 #[rv a, iv b, iv (XT.ushr b (6 : Int32)), iv (1 : Int32)] [(.int (1 : Int32)), (.ref aw), (.int (1 : Int32)), (.ref aw)])) rfl rfl (hb hby d11_32) _) ?_
    show Ends p e below s _ _ _ T570 (mkF m 33 #[rv a, iv b, iv (XT.ushr b (6 : Int32)), iv (1 : Int32)] [(.long w1), (.int (1 : Int32)), (.ref aw)])
    refine go (fun _ => XT.lconstV X570.here hx rfl (1 : Int64) (hb hby d11_33) (by decide)) ?_
    refine go (fun _ => XS.iloadN X570.here hx rfl (hb hby d11_34) rfl) ?_
    refine go (fun _ => XT.lshl X570.here hx rfl (hb hby d11_35) rfl) ?_
    refine go (fun _ => XT.lor X570.here hx rfl (hb hby d11_36) rfl) ?_
    show Ends p e below s _ _ _ T570 (mkF m 37 #[rv a, iv b, iv (XT.ushr b (6 : Int32)), iv (1 : Int32)] [(.long (w1 ||| ((1 : Int64) <<< (b.toInt64 &&& 63)))), (.int (1 : Int32)), (.ref aw)])
    obtain ⟨cl573, A573, q573, S573, M573, H573, G573⟩ := id F571
    obtain ⟨T573, h573, X573, e573, W573, s573⟩ := stJ X570 hx hZ e570 A573 (j := (1 : Int32)) (inb_of S573 (by decide)) (g := (mkF m 37 #[rv a, iv b, iv (XT.ushr b (6 : Int32)), iv (1 : Int32)] [(.long (w1 ||| ((1 : Int64) <<< (b.toInt64 &&& 63)))), (.int (1 : Int32)), (.ref aw)])) rfl rfl (hb hby d11_37)
    have N573 := Fr.snoc X573 N516a fw
    have O574 : Ext Z.heap h573 := xw O569 W573 fw
    have V573 : Arv Z h573 aw kw .long (2 : Int32) [(.long w0), (.long (w1 ||| ((1 : Int64) <<< (b.toInt64 &&& 63))))] (.long 0) := Arv.set A573 q573 S573 M573 H573 G573 rfl W573 1 (by decide) (Nat.le_of_ble_eq_true rfl)
    refine go s573 ?_
    show Ends p e below s _ _ _ T573 (mkF m 38 #[rv a, iv b, iv (XT.ushr b (6 : Int32)), iv (1 : Int32)] [])
    have F575 := (Fld.other W573 Q516_0 (Or.inl naw))
    have F576 := (Fld.other W573 Q516_1 (Or.inl naw))
    have F577 := (Fld.other W573 Q516_2 (Or.inl naw))
    have F578 := (Fld.other W573 Q516_3 (Or.inl naw))
    have F579 := (Arv.other (Arv.keep P4 K516 (ninS (Ne.symm nai) nin0)) W573 niw)
    have K580 : Keep h0 h573 [a, ai, aw] := (Keep.wr (Keep.trans (Keep.refl _ _) K516 (allS (Or.inl (List.mem_of_getElem? (i := 0) rfl)) all0)) W573 (Or.inl (List.mem_of_getElem? (i := 2) rfl)))
    exact endV X573 hx hlk hret (hb hby d11_38) e573 (Or.inr (Or.inr (Or.inr (Or.inl ⟨rfl, N573, cq516, ⟨K580, F575, F576, F577, F578, F579, V573⟩⟩)))) (by decide) (by decide)
  · have N516a := Fr.app (Fr.nil _) N516
    show Ends p e below s _ _ _ T516 (mkF m 10 #[rv a, iv b, iv (XT.ushr b (6 : Int32)), .unset] [(.int (-3 : Int32))])
    refine go (fun _ => XS.istoreN X516.here hx rfl (hb hby d11_10) rfl (l' := #[rv a, iv b, iv (XT.ushr b (6 : Int32)), iv (-3 : Int32)]) rfl) ?_
    refine go (fun _ => XS.iloadN X516.here hx rfl (hb hby d11_11) rfl) ?_
    show Ends p e below s _ _ _ T516 (mkF m 12 #[rv a, iv b, iv (XT.ushr b (6 : Int32)), iv (-3 : Int32)] [(.int (-3 : Int32))])
    refine go (fun _ => XS.ifNo X516.here hx rfl (hb hby d11_12) rfl (XT.i0_ge_f ((by decide) : (-3 : Int32) < (0 : Int32)))) ?_
    show Ends p e below s _ _ _ T516 (mkF m 15 #[rv a, iv b, iv (XT.ushr b (6 : Int32)), iv (-3 : Int32)] [])
    refine go (fun _ => XS.iloadN X516.here hx rfl (hb hby d11_15) rfl) ?_
    show Ends p e below s _ _ _ T516 (mkF m 16 #[rv a, iv b, iv (XT.ushr b (6 : Int32)), iv (-3 : Int32)] [(.int (-3 : Int32))])
    refine go (fun _ => XS.ineg X516.here hx rfl (hb hby d11_16) rfl) ?_
    show Ends p e below s _ _ _ T516 (mkF m 17 #[rv a, iv b, iv (XT.ushr b (6 : Int32)), iv (-3 : Int32)] [(.int (3 : Int32))])
    refine go (fun _ => XT.iconstV X516.here hx rfl (1 : Int32) (hb hby d11_17) (by decide)) ?_
    refine go (fun _ => XS.isub X516.here hx rfl (hb hby d11_18) rfl) ?_
    refine go (fun _ => XS.istoreN X516.here hx rfl (hb hby d11_19) rfl (l' := #[rv a, iv b, iv (XT.ushr b (6 : Int32)), iv (2 : Int32)]) rfl) ?_
    refine go (fun _ => XS.aloadN X516.here hx rfl (hb hby d11_20) rfl rfl) ?_
    refine go (fun _ => XS.iloadN X516.here hx rfl (hb hby d11_21) rfl) ?_
    refine go (fun _ => XS.iloadN X516.here hx rfl (hb hby d11_22) rfl) ?_
    show Ends p e below s _ _ _ T516 (mkF m 23 #[rv a, iv b, iv (XT.ushr b (6 : Int32)), iv (2 : Int32)] [(.int (XT.ushr b (6 : Int32))), (.int (2 : Int32)), (.ref a)])
    refine cPriv X516 hx hZ hown (by rw [hml]; rfl) e516 (hwi hw 30 rfl) (hwi hw 31 rfl) (hwi hw 32 rfl) (hwi hw 1 rfl) (hwi hw 2 rfl) (hwi hw 33 rfl) a E0 [(.int (2 : Int32)), (.int (XT.ushr b (6 : Int32)))] [] rfl (rm_ins2_2 hw a ai aw ki kw i0 i1 w0 w1 (XT.ushr b (6 : Int32)) _ O0 f0 E0 P0 P1 P2 P3 P4 P5 fi fw nai naw niw) (hb hby d11_23) rfl (lenOf pd_9 rfl) (by decide) (by decide) (Nat.le_of_ble_eq_true rfl) (by decide) (by decide) ?_
    rintro v581 T581 h581 L581 X581 e581 ⟨rfl, N581, ⟨bi581, bw581, k1581, k2581, K581, ga581, gb581, nn581, Q581_0, Q581_1, Q581_2, Q581_3, Q581_4, Q581_5⟩⟩
    have N581a := Fr.app N516a N581
    have n582 : a ≠ bi581 := Nat.ne_of_lt (Nat.lt_of_lt_of_le (E0.lt) ga581)
    have n583 : ai ≠ bi581 := Nat.ne_of_lt (Nat.lt_of_lt_of_le (P4.lt) ga581)
    have n584 : aw ≠ bi581 := Nat.ne_of_lt (Nat.lt_of_lt_of_le (P5.lt) ga581)
    have f585 : Z.heap.size ≤ bi581 := Nat.le_trans (O0).1 ga581
    have K586 : Keep h0 h0 [a, ai, aw] := (Keep.refl _ _)
    have b585 : h0.size ≤ bi581 := Nat.le_trans (K586).1 ga581
    have n587 : a ≠ bw581 := Nat.ne_of_lt (Nat.lt_of_lt_of_le (E0.lt) gb581)
    have n588 : ai ≠ bw581 := Nat.ne_of_lt (Nat.lt_of_lt_of_le (P4.lt) gb581)
    have n589 : aw ≠ bw581 := Nat.ne_of_lt (Nat.lt_of_lt_of_le (P5.lt) gb581)
    have f590 : Z.heap.size ≤ bw581 := Nat.le_trans (O0).1 gb581
    have b590 : h0.size ≤ bw581 := Nat.le_trans (K586).1 gb581
    have O591 : Ext Z.heap h581 := xk O0 K581 (allS f0 all0)
    show Ends p e below s _ _ _ T581 (mkF m 26 #[rv a, iv b, iv (XT.ushr b (6 : Int32)), iv (2 : Int32)] [])
    refine go (fun _ => XS.aloadN X581.here hx rfl (hb hby d11_26) rfl rfl) ?_
    show Ends p e below s _ _ _ T581 (mkF m 27 #[rv a, iv b, iv (XT.ushr b (6 : Int32)), iv (2 : Int32)] [(.ref a)])
    obtain ⟨T592, X592, e592, s592⟩ := getF X581 hx hZ hown (host := "") (Or.inl (hwi hw 15 rfl)) Via.refl e581 Q581_1 (g := (mkF m 27 #[rv a, iv b, iv (XT.ushr b (6 : Int32)), iv (2 : Int32)] [(.ref a)])) rfl rfl (hb hby d11_27)
    refine go s592 ?_
    show Ends p e below s _ _ _ T592 (mkF m 30 #[rv a, iv b, iv (XT.ushr b (6 : Int32)), iv (2 : Int32)] [(.ref bw581)])
    refine go (fun _ => XS.iloadN X592.here hx rfl (hb hby d11_30) rfl) ?_
    refine go (fun _ => XT.dup2 X592.here hx rfl (hb hby d11_31) rfl rfl rfl) ?_
    show Ends p e below s _ _ _ T592 (mkF m 32 #[rv a, iv b, iv (XT.ushr b (6 : Int32)), iv (2 : Int32)] [(.int (2 : Int32)), (.ref bw581), (.int (2 : Int32)), (.ref bw581)])
    obtain ⟨cl593, A593, -, S593, M593, H593, -⟩ := id Q581_5
    have B593 := inb_of S593 (j := (2 : Int32)) (by decide)
    refine go (fun _ => X592.laload hx (j := (2 : Int32)) (v := (.long (0 : Int64))) (by rw [e592]; exact A593.1) (State.isArrayOf_alike hZ.alike A593.2.1) A593.2.2 B593 (H593.at B593 rfl) (g := (mkF m 32 #[rv a, iv b, iv (XT.ushr b (6 : Int32)), iv (2 : Int32)] [(.int (2 : Int32)), (.ref bw581), (.int (2 : Int32)), (.ref bw581)])) rfl rfl (hb hby d11_32) _) ?_
    show Ends p e below s _ _ _ T592 (mkF m 33 #[rv a, iv b, iv (XT.ushr b (6 : Int32)), iv (2 : Int32)] [(.long (0 : Int64)), (.int (2 : Int32)), (.ref bw581)])
    refine go (fun _ => XT.lconstV X592.here hx rfl (1 : Int64) (hb hby d11_33) (by decide)) ?_
    refine go (fun _ => XS.iloadN X592.here hx rfl (hb hby d11_34) rfl) ?_
    refine go (fun _ => XT.lshl X592.here hx rfl (hb hby d11_35) rfl) ?_
    refine go (fun _ => XT.lor X592.here hx rfl (hb hby d11_36) rfl) ?_
    show Ends p e below s _ _ _ T592 (mkF m 37 #[rv a, iv b, iv (XT.ushr b (6 : Int32)), iv (2 : Int32)] [(.long ((0 : Int64) ||| ((1 : Int64) <<< (b.toInt64 &&& 63)))), (.int (2 : Int32)), (.ref bw581)])
    obtain ⟨cl594, A594, q594, S594, M594, H594, G594⟩ := id Q581_5
    obtain ⟨T594, h594, X594, e594, W594, s594⟩ := stJ X592 hx hZ e592 A594 (j := (2 : Int32)) (inb_of S594 (by decide)) (g := (mkF m 37 #[rv a, iv b, iv (XT.ushr b (6 : Int32)), iv (2 : Int32)] [(.long ((0 : Int64) ||| ((1 : Int64) <<< (b.toInt64 &&& 63)))), (.int (2 : Int32)), (.ref bw581)])) rfl rfl (hb hby d11_37)
    have N594 := Fr.snoc X594 N581a f590
    have O595 : Ext Z.heap h594 := xw O591 W594 f590
    have V594 : Arv Z h594 bw581 k2581 .long (4 : Int32) [(.long w0), (.long w1), (.long ((0 : Int64) ||| ((1 : Int64) <<< (b.toInt64 &&& 63)))), (.long (0 : Int64))] (.long 0) := Arv.set A594 q594 S594 M594 H594 G594 rfl W594 2 (by decide) (Nat.le_of_ble_eq_true rfl)
    refine go s594 ?_
    show Ends p e below s _ _ _ T594 (mkF m 38 #[rv a, iv b, iv (XT.ushr b (6 : Int32)), iv (2 : Int32)] [])
    have F596 := (Fld.other W594 Q581_0 (Or.inl n587))
    have F597 := (Fld.other W594 Q581_1 (Or.inl n587))
    have F598 := (Fld.other W594 Q581_2 (Or.inl n587))
    have F599 := (Fld.other W594 Q581_3 (Or.inl n587))
    have F600 := (Arv.other Q581_4 W594 nn581)
    have K601 : Keep h0 h594 [a, ai, aw] := (Keep.wr (Keep.trans K586 K581 (allS (Or.inl (List.mem_of_getElem? (i := 0) rfl)) all0)) W594 (Or.inr b590))
    exact endV X594 hx hlk hret (hb hby d11_38) e594 (Or.inr (Or.inr (Or.inr (Or.inr (⟨rfl, N594, cq516, ⟨bi581, bw581, _, _, K601, b585, b590, nn581, F596, F597, F598, F599, F600, V594⟩⟩))))) (by decide) (by decide)
set_option maxRecDepth 65536 in
set_option maxHeartbeats 40000000 in
theorem rm_add0_0 {l : Launch} {Z : State} {a0 : Array Value} (hw : ∀ d ∈ tables_1, d.before a0 Z = true) (a ai aw : Addr) (ki kw : ClassId)  (aL : Addr) (kL : ClassId) (F : Nat → Int64) (h0 : Heap) (O0 : Ext Z.heap h0) (f0 : Z.heap.size ≤ a) (E0 : Exa Z h0 a "com/example/libtbox/libtbox/core/SparseBitSet") (P0 : Fld Z h0 a "com/example/libtbox/libtbox/core/SparseBitSet" "indices" "[I" (.ref ai)) (P1 : Fld Z h0 a "com/example/libtbox/libtbox/core/SparseBitSet" "words" "[J" (.ref aw)) (P2 : Fld Z h0 a "com/example/libtbox/libtbox/core/SparseBitSet" "count" "I" (.int (0 : Int32))) (P3 : Fld Z h0 a "com/example/libtbox/libtbox/core/SparseBitSet" "lastFound" "I" (.int (0 : Int32))) (P4 : Arv Z h0 ai ki .int (0 : Int32) [] (.int 0)) (P5 : Arv Z h0 aw kw .long (0 : Int32) [] (.long 0)) (nai : a ≠ ai) (naw : a ≠ aw) (VL : Arv Z h0 aL kL .long (4 : Int32) (own_b F) (.long 0)) (fL : Z.heap.size ≤ aL) (m0 : a ≠ aL) (m1 : ai ≠ aL) (m2 : aw ≠ aL)  :
    Con l (⟨"com/example/libtbox/libtbox/core/SparseBitSet", "addTo", "([J)V"⟩ : MethodName) prog_51_method_14_code 3 none ({ frames := 0, cells := 0, slots := 0, locals := 0 } : Room) Z #[(.ref a), (.ref aL)] h0 (fun v h L => v = none ∧ Fr Z.heap.size L ∧ Keep h0 h [aL] ∧ Arv Z h aL kL .long (4 : Int32) (own_b F) (.long 0)) := by
  refine Con.of (plainFor_of_name pn_0) (Ls := #[rv a, rv aL, .unset]) (fun m => efOf rfl) ?_
  intro p e s m below meth c T0 X0 hx hZ hby hml hown hnm hret hlk e0
  refine go (fun _ => XT.iconstV X0.here hx rfl (0 : Int32) (hb hby d12_0) (by decide)) ?_
  refine go (fun _ => XS.istoreN X0.here hx rfl (hb hby d12_1) rfl (l' := #[rv a, rv aL, iv (0 : Int32)]) rfl) ?_
  refine go (fun _ => XS.iloadN X0.here hx rfl (hb hby d12_2) rfl) ?_
  refine go (fun _ => XS.aloadN X0.here hx rfl (hb hby d12_3) rfl rfl) ?_
  show Ends p e below s _ _ _ T0 (mkF m 4 #[rv a, rv aL, iv (0 : Int32)] [(.ref a), (.int (0 : Int32))])
  obtain ⟨T602, X602, e602, s602⟩ := getF X0 hx hZ hown (host := "") (Or.inl (hwi hw 28 rfl)) Via.refl e0 P2 (g := (mkF m 4 #[rv a, rv aL, iv (0 : Int32)] [(.ref a), (.int (0 : Int32))])) rfl rfl (hb hby d12_4)
  refine go s602 ?_
  show Ends p e below s _ _ _ T602 (mkF m 7 #[rv a, rv aL, iv (0 : Int32)] [(.int (0 : Int32)), (.int (0 : Int32))])
  refine go (fun _ => XS.icmpYes X602.here hx rfl (pc0 := 7) (pc' := 33) rfl (hb hby d12_7) rfl (XT.ii_ge_t ((by decide) : ¬ ((0 : Int32) < (0 : Int32)))) (by decide) (by decide)) ?_
  show Ends p e below s _ _ _ T602 (mkF m 33 #[rv a, rv aL, iv (0 : Int32)] [])
  have K603 : Keep h0 h0 [aL] := (Keep.refl _ _)
  exact endV X602 hx hlk hret (hb hby d12_33) e602 ⟨rfl, (Fr.nil _), K603, VL⟩ (by decide) (by decide)
set_option maxRecDepth 65536 in
set_option maxHeartbeats 40000000 in
theorem rm_add1_0 {l : Launch} {Z : State} {a0 : Array Value} (hw : ∀ d ∈ tables_1, d.before a0 Z = true) (a ai aw : Addr) (ki kw : ClassId) (i0 : Int32) (w0 : Int64) (aL : Addr) (kL : ClassId) (F : Nat → Int64) (h0 : Heap) (O0 : Ext Z.heap h0) (f0 : Z.heap.size ≤ a) (E0 : Exa Z h0 a "com/example/libtbox/libtbox/core/SparseBitSet") (P0 : Fld Z h0 a "com/example/libtbox/libtbox/core/SparseBitSet" "indices" "[I" (.ref ai)) (P1 : Fld Z h0 a "com/example/libtbox/libtbox/core/SparseBitSet" "words" "[J" (.ref aw)) (P2 : Fld Z h0 a "com/example/libtbox/libtbox/core/SparseBitSet" "count" "I" (.int (1 : Int32))) (P3 : Fld Z h0 a "com/example/libtbox/libtbox/core/SparseBitSet" "lastFound" "I" (.int (0 : Int32))) (P4 : Arv Z h0 ai ki .int (2 : Int32) [(.int i0), (.int (0 : Int32))] (.int 0)) (P5 : Arv Z h0 aw kw .long (2 : Int32) [(.long w0), (.long (0 : Int64))] (.long 0)) (fi : Z.heap.size ≤ ai) (fw : Z.heap.size ≤ aw) (nai : a ≠ ai) (naw : a ≠ aw) (niw : ai ≠ aw) (VL : Arv Z h0 aL kL .long (4 : Int32) (own_b F) (.long 0)) (fL : Z.heap.size ≤ aL) (m0 : a ≠ aL) (m1 : ai ≠ aL) (m2 : aw ≠ aL) (g0 : ¬ i0 < 0 ∧ i0 < 4) :
    Con l (⟨"com/example/libtbox/libtbox/core/SparseBitSet", "addTo", "([J)V"⟩ : MethodName) prog_51_method_14_code 3 none ({ frames := 0, cells := 0, slots := 0, locals := 0 } : Room) Z #[(.ref a), (.ref aL)] h0 (fun v h L => v = none ∧ Fr Z.heap.size L ∧ Keep h0 h [aL] ∧ Arv Z h aL kL .long (4 : Int32) (own_b (own_add F i0.toNatClampNeg w0)) (.long 0)) := by
  refine Con.of (plainFor_of_name pn_0) (Ls := #[rv a, rv aL, .unset]) (fun m => efOf rfl) ?_
  intro p e s m below meth c T0 X0 hx hZ hby hml hown hnm hret hlk e0
  refine go (fun _ => XT.iconstV X0.here hx rfl (0 : Int32) (hb hby d12_0) (by decide)) ?_
  refine go (fun _ => XS.istoreN X0.here hx rfl (hb hby d12_1) rfl (l' := #[rv a, rv aL, iv (0 : Int32)]) rfl) ?_
  refine go (fun _ => XS.iloadN X0.here hx rfl (hb hby d12_2) rfl) ?_
  refine go (fun _ => XS.aloadN X0.here hx rfl (hb hby d12_3) rfl rfl) ?_
  show Ends p e below s _ _ _ T0 (mkF m 4 #[rv a, rv aL, iv (0 : Int32)] [(.ref a), (.int (0 : Int32))])
  obtain ⟨T604, X604, e604, s604⟩ := getF X0 hx hZ hown (host := "") (Or.inl (hwi hw 28 rfl)) Via.refl e0 P2 (g := (mkF m 4 #[rv a, rv aL, iv (0 : Int32)] [(.ref a), (.int (0 : Int32))])) rfl rfl (hb hby d12_4)
  refine go s604 ?_
  show Ends p e below s _ _ _ T604 (mkF m 7 #[rv a, rv aL, iv (0 : Int32)] [(.int (1 : Int32)), (.int (0 : Int32))])
  refine go (fun _ => XS.icmpNo X604.here hx rfl (hb hby d12_7) rfl (XT.ii_ge_f ((by decide) : (0 : Int32) < (1 : Int32)))) ?_
  show Ends p e below s _ _ _ T604 (mkF m 10 #[rv a, rv aL, iv (0 : Int32)] [])
  refine go (fun _ => XS.aloadN X604.here hx rfl (hb hby d12_10) rfl rfl) ?_
  refine go (fun _ => XS.aloadN X604.here hx rfl (hb hby d12_11) rfl rfl) ?_
  show Ends p e below s _ _ _ T604 (mkF m 12 #[rv a, rv aL, iv (0 : Int32)] [(.ref a), (.ref aL)])
  obtain ⟨T605, X605, e605, s605⟩ := getF X604 hx hZ hown (host := "") (Or.inl (hwi hw 11 rfl)) Via.refl e604 P0 (g := (mkF m 12 #[rv a, rv aL, iv (0 : Int32)] [(.ref a), (.ref aL)])) rfl rfl (hb hby d12_12)
  refine go s605 ?_
  show Ends p e below s _ _ _ T605 (mkF m 15 #[rv a, rv aL, iv (0 : Int32)] [(.ref ai), (.ref aL)])
  refine go (fun _ => XS.iloadN X605.here hx rfl (hb hby d12_15) rfl) ?_
  show Ends p e below s _ _ _ T605 (mkF m 16 #[rv a, rv aL, iv (0 : Int32)] [(.int (0 : Int32)), (.ref ai), (.ref aL)])
  obtain ⟨cl606, A606, -, S606, M606, H606, -⟩ := id P4
  have B606 := inb_of S606 (j := (0 : Int32)) (by decide)
  refine go (fun _ => X605.iaload hx (j := (0 : Int32)) (v := (.int i0)) (by rw [e605]; exact A606.1) (State.isArrayOf_alike hZ.alike A606.2.1) A606.2.2 B606 (H606.at B606 rfl) (g := (mkF m 16 #[rv a, rv aL, iv (0 : Int32)] [(.int (0 : Int32)), (.ref ai), (.ref aL)])) rfl rfl (hb hby d12_16) _) ?_
  show Ends p e below s _ _ _ T605 (mkF m 17 #[rv a, rv aL, iv (0 : Int32)] [(.int i0), (.ref aL)])
  refine go (fun _ => XT.dup2 X605.here hx rfl (hb hby d12_17) rfl rfl rfl) ?_
  show Ends p e below s _ _ _ T605 (mkF m 18 #[rv a, rv aL, iv (0 : Int32)] [(.int i0), (.ref aL), (.int i0), (.ref aL)])
  obtain ⟨cl607, A607, -, S607, M607, H607, -⟩ := id VL
  have B607 := inb_of S607 (j := i0) g0
  refine go (fun _ => X605.laload hx (j := i0) (v := (.long (F i0.toNatClampNeg))) (by rw [e605]; exact A607.1) (State.isArrayOf_alike hZ.alike A607.2.1) A607.2.2 B607 (H607.at B607 (own_bget _ (own_lt4 g0))) (g := (mkF m 18 #[rv a, rv aL, iv (0 : Int32)] [(.int i0), (.ref aL), (.int i0), (.ref aL)])) rfl rfl (hb hby d12_18) _) ?_
  show Ends p e below s _ _ _ T605 (mkF m 19 #[rv a, rv aL, iv (0 : Int32)] [(.long (F i0.toNatClampNeg)), (.int i0), (.ref aL)])
  refine go (fun _ => XS.aloadN X605.here hx rfl (hb hby d12_19) rfl rfl) ?_
  show Ends p e below s _ _ _ T605 (mkF m 20 #[rv a, rv aL, iv (0 : Int32)] [(.ref a), (.long (F i0.toNatClampNeg)), (.int i0), (.ref aL)])
  obtain ⟨T608, X608, e608, s608⟩ := getF X605 hx hZ hown (host := "") (Or.inl (hwi hw 15 rfl)) Via.refl e605 P1 (g := (mkF m 20 #[rv a, rv aL, iv (0 : Int32)] [(.ref a), (.long (F i0.toNatClampNeg)), (.int i0), (.ref aL)])) rfl rfl (hb hby d12_20)
  refine go s608 ?_
  show Ends p e below s _ _ _ T608 (mkF m 23 #[rv a, rv aL, iv (0 : Int32)] [(.ref aw), (.long (F i0.toNatClampNeg)), (.int i0), (.ref aL)])
  refine go (fun _ => XS.iloadN X608.here hx rfl (hb hby d12_23) rfl) ?_
  show Ends p e below s _ _ _ T608 (mkF m 24 #[rv a, rv aL, iv (0 : Int32)] [(.int (0 : Int32)), (.ref aw), (.long (F i0.toNatClampNeg)), (.int i0), (.ref aL)])
  obtain ⟨cl609, A609, -, S609, M609, H609, -⟩ := id P5
  have B609 := inb_of S609 (j := (0 : Int32)) (by decide)
  refine go (fun _ => X608.laload hx (j := (0 : Int32)) (v := (.long w0)) (by rw [e608]; exact A609.1) (State.isArrayOf_alike hZ.alike A609.2.1) A609.2.2 B609 (H609.at B609 rfl) (g := (mkF m 24 #[rv a, rv aL, iv (0 : Int32)] [(.int (0 : Int32)), (.ref aw), (.long (F i0.toNatClampNeg)), (.int i0), (.ref aL)])) rfl rfl (hb hby d12_24) _) ?_
  show Ends p e below s _ _ _ T608 (mkF m 25 #[rv a, rv aL, iv (0 : Int32)] [(.long w0), (.long (F i0.toNatClampNeg)), (.int i0), (.ref aL)])
  refine go (fun _ => XT.lor X608.here hx rfl (hb hby d12_25) rfl) ?_
  show Ends p e below s _ _ _ T608 (mkF m 26 #[rv a, rv aL, iv (0 : Int32)] [(.long ((F i0.toNatClampNeg) ||| w0)), (.int i0), (.ref aL)])
  obtain ⟨cl610, A610, q610, S610, M610, H610, G610⟩ := id VL
  obtain ⟨T610, h610, X610, e610, W610, s610⟩ := stJ X608 hx hZ e608 A610 (j := i0) (inb_of S610 g0) (g := (mkF m 26 #[rv a, rv aL, iv (0 : Int32)] [(.long ((F i0.toNatClampNeg) ||| w0)), (.int i0), (.ref aL)])) rfl rfl (hb hby d12_26)
  have N610 := Fr.snoc X610 (Fr.nil _) fL
  have O611 : Ext Z.heap h610 := xw O0 W610 fL
  have V610 : Arv Z h610 aL kL .long (4 : Int32) (own_b (own_add F i0.toNatClampNeg w0)) (.long 0) := by rw [← own_bset _ (own_lt4 g0)]; exact Arv.set A610 q610 S610 M610 H610 G610 rfl W610 _ rfl (own_lt4 g0)
  refine go s610 ?_
  show Ends p e below s _ _ _ T610 (mkF m 27 #[rv a, rv aL, iv (0 : Int32)] [])
  refine go (fun _ => XT.iincV X610.here hx rfl (1 : Int32) (hb hby d12_27) (by decide) rfl (l' := #[rv a, rv aL, iv (1 : Int32)]) rfl) ?_
  refine go (fun _ => XS.goto X610.here hx rfl (pc0 := 30) (pc' := 2) rfl (hb hby d12_30) (by decide) (by decide)) ?_
  refine go (fun _ => XS.iloadN X610.here hx rfl (hb hby d12_2) rfl) ?_
  refine go (fun _ => XS.aloadN X610.here hx rfl (hb hby d12_3) rfl rfl) ?_
  show Ends p e below s _ _ _ T610 (mkF m 4 #[rv a, rv aL, iv (1 : Int32)] [(.ref a), (.int (1 : Int32))])
  have F612 := (Fld.other W610 P2 (Or.inl m0))
  obtain ⟨T613, X613, e613, s613⟩ := getF X610 hx hZ hown (host := "") (Or.inl (hwi hw 28 rfl)) Via.refl e610 F612 (g := (mkF m 4 #[rv a, rv aL, iv (1 : Int32)] [(.ref a), (.int (1 : Int32))])) rfl rfl (hb hby d12_4)
  refine go s613 ?_
  show Ends p e below s _ _ _ T613 (mkF m 7 #[rv a, rv aL, iv (1 : Int32)] [(.int (1 : Int32)), (.int (1 : Int32))])
  refine go (fun _ => XS.icmpYes X613.here hx rfl (pc0 := 7) (pc' := 33) rfl (hb hby d12_7) rfl (XT.ii_ge_t ((by decide) : ¬ ((1 : Int32) < (1 : Int32)))) (by decide) (by decide)) ?_
  show Ends p e below s _ _ _ T613 (mkF m 33 #[rv a, rv aL, iv (1 : Int32)] [])
  have K614 : Keep h0 h610 [aL] := (Keep.wr (Keep.refl _ _) W610 (Or.inl (List.mem_of_getElem? (i := 0) rfl)))
  exact endV X613 hx hlk hret (hb hby d12_33) e613 ⟨rfl, N610, K614, V610⟩ (by decide) (by decide)
set_option maxRecDepth 65536 in
set_option maxHeartbeats 40000000 in
theorem rm_add2_0 {l : Launch} {Z : State} {a0 : Array Value} (hw : ∀ d ∈ tables_1, d.before a0 Z = true) (a ai aw : Addr) (ki kw : ClassId) (i0 i1 : Int32) (w0 w1 : Int64) (aL : Addr) (kL : ClassId) (F : Nat → Int64) (h0 : Heap) (O0 : Ext Z.heap h0) (f0 : Z.heap.size ≤ a) (E0 : Exa Z h0 a "com/example/libtbox/libtbox/core/SparseBitSet") (P0 : Fld Z h0 a "com/example/libtbox/libtbox/core/SparseBitSet" "indices" "[I" (.ref ai)) (P1 : Fld Z h0 a "com/example/libtbox/libtbox/core/SparseBitSet" "words" "[J" (.ref aw)) (P2 : Fld Z h0 a "com/example/libtbox/libtbox/core/SparseBitSet" "count" "I" (.int (2 : Int32))) (P3 : Fld Z h0 a "com/example/libtbox/libtbox/core/SparseBitSet" "lastFound" "I" (.int (0 : Int32))) (P4 : Arv Z h0 ai ki .int (2 : Int32) [(.int i0), (.int i1)] (.int 0)) (P5 : Arv Z h0 aw kw .long (2 : Int32) [(.long w0), (.long w1)] (.long 0)) (fi : Z.heap.size ≤ ai) (fw : Z.heap.size ≤ aw) (nai : a ≠ ai) (naw : a ≠ aw) (niw : ai ≠ aw) (VL : Arv Z h0 aL kL .long (4 : Int32) (own_b F) (.long 0)) (fL : Z.heap.size ≤ aL) (m0 : a ≠ aL) (m1 : ai ≠ aL) (m2 : aw ≠ aL) (g0 : ¬ i0 < 0 ∧ i0 < 4) (g1 : ¬ i1 < 0 ∧ i1 < 4) :
    Con l (⟨"com/example/libtbox/libtbox/core/SparseBitSet", "addTo", "([J)V"⟩ : MethodName) prog_51_method_14_code 3 none ({ frames := 0, cells := 0, slots := 0, locals := 0 } : Room) Z #[(.ref a), (.ref aL)] h0 (fun v h L => v = none ∧ Fr Z.heap.size L ∧ Keep h0 h [aL] ∧ Arv Z h aL kL .long (4 : Int32) (own_b (own_add (own_add F i0.toNatClampNeg w0) i1.toNatClampNeg w1)) (.long 0)) := by
  refine Con.of (plainFor_of_name pn_0) (Ls := #[rv a, rv aL, .unset]) (fun m => efOf rfl) ?_
  intro p e s m below meth c T0 X0 hx hZ hby hml hown hnm hret hlk e0
  refine go (fun _ => XT.iconstV X0.here hx rfl (0 : Int32) (hb hby d12_0) (by decide)) ?_
  refine go (fun _ => XS.istoreN X0.here hx rfl (hb hby d12_1) rfl (l' := #[rv a, rv aL, iv (0 : Int32)]) rfl) ?_
  refine go (fun _ => XS.iloadN X0.here hx rfl (hb hby d12_2) rfl) ?_
  refine go (fun _ => XS.aloadN X0.here hx rfl (hb hby d12_3) rfl rfl) ?_
  show Ends p e below s _ _ _ T0 (mkF m 4 #[rv a, rv aL, iv (0 : Int32)] [(.ref a), (.int (0 : Int32))])
  obtain ⟨T615, X615, e615, s615⟩ := getF X0 hx hZ hown (host := "") (Or.inl (hwi hw 28 rfl)) Via.refl e0 P2 (g := (mkF m 4 #[rv a, rv aL, iv (0 : Int32)] [(.ref a), (.int (0 : Int32))])) rfl rfl (hb hby d12_4)
  refine go s615 ?_
  show Ends p e below s _ _ _ T615 (mkF m 7 #[rv a, rv aL, iv (0 : Int32)] [(.int (2 : Int32)), (.int (0 : Int32))])
  refine go (fun _ => XS.icmpNo X615.here hx rfl (hb hby d12_7) rfl (XT.ii_ge_f ((by decide) : (0 : Int32) < (2 : Int32)))) ?_
  show Ends p e below s _ _ _ T615 (mkF m 10 #[rv a, rv aL, iv (0 : Int32)] [])
  refine go (fun _ => XS.aloadN X615.here hx rfl (hb hby d12_10) rfl rfl) ?_
  refine go (fun _ => XS.aloadN X615.here hx rfl (hb hby d12_11) rfl rfl) ?_
  show Ends p e below s _ _ _ T615 (mkF m 12 #[rv a, rv aL, iv (0 : Int32)] [(.ref a), (.ref aL)])
  obtain ⟨T616, X616, e616, s616⟩ := getF X615 hx hZ hown (host := "") (Or.inl (hwi hw 11 rfl)) Via.refl e615 P0 (g := (mkF m 12 #[rv a, rv aL, iv (0 : Int32)] [(.ref a), (.ref aL)])) rfl rfl (hb hby d12_12)
  refine go s616 ?_
  show Ends p e below s _ _ _ T616 (mkF m 15 #[rv a, rv aL, iv (0 : Int32)] [(.ref ai), (.ref aL)])
  refine go (fun _ => XS.iloadN X616.here hx rfl (hb hby d12_15) rfl) ?_
  show Ends p e below s _ _ _ T616 (mkF m 16 #[rv a, rv aL, iv (0 : Int32)] [(.int (0 : Int32)), (.ref ai), (.ref aL)])
  obtain ⟨cl617, A617, -, S617, M617, H617, -⟩ := id P4
  have B617 := inb_of S617 (j := (0 : Int32)) (by decide)
  refine go (fun _ => X616.iaload hx (j := (0 : Int32)) (v := (.int i0)) (by rw [e616]; exact A617.1) (State.isArrayOf_alike hZ.alike A617.2.1) A617.2.2 B617 (H617.at B617 rfl) (g := (mkF m 16 #[rv a, rv aL, iv (0 : Int32)] [(.int (0 : Int32)), (.ref ai), (.ref aL)])) rfl rfl (hb hby d12_16) _) ?_
  show Ends p e below s _ _ _ T616 (mkF m 17 #[rv a, rv aL, iv (0 : Int32)] [(.int i0), (.ref aL)])
  refine go (fun _ => XT.dup2 X616.here hx rfl (hb hby d12_17) rfl rfl rfl) ?_
  show Ends p e below s _ _ _ T616 (mkF m 18 #[rv a, rv aL, iv (0 : Int32)] [(.int i0), (.ref aL), (.int i0), (.ref aL)])
  obtain ⟨cl618, A618, -, S618, M618, H618, -⟩ := id VL
  have B618 := inb_of S618 (j := i0) g0
  refine go (fun _ => X616.laload hx (j := i0) (v := (.long (F i0.toNatClampNeg))) (by rw [e616]; exact A618.1) (State.isArrayOf_alike hZ.alike A618.2.1) A618.2.2 B618 (H618.at B618 (own_bget _ (own_lt4 g0))) (g := (mkF m 18 #[rv a, rv aL, iv (0 : Int32)] [(.int i0), (.ref aL), (.int i0), (.ref aL)])) rfl rfl (hb hby d12_18) _) ?_
  show Ends p e below s _ _ _ T616 (mkF m 19 #[rv a, rv aL, iv (0 : Int32)] [(.long (F i0.toNatClampNeg)), (.int i0), (.ref aL)])
  refine go (fun _ => XS.aloadN X616.here hx rfl (hb hby d12_19) rfl rfl) ?_
  show Ends p e below s _ _ _ T616 (mkF m 20 #[rv a, rv aL, iv (0 : Int32)] [(.ref a), (.long (F i0.toNatClampNeg)), (.int i0), (.ref aL)])
  obtain ⟨T619, X619, e619, s619⟩ := getF X616 hx hZ hown (host := "") (Or.inl (hwi hw 15 rfl)) Via.refl e616 P1 (g := (mkF m 20 #[rv a, rv aL, iv (0 : Int32)] [(.ref a), (.long (F i0.toNatClampNeg)), (.int i0), (.ref aL)])) rfl rfl (hb hby d12_20)
  refine go s619 ?_
  show Ends p e below s _ _ _ T619 (mkF m 23 #[rv a, rv aL, iv (0 : Int32)] [(.ref aw), (.long (F i0.toNatClampNeg)), (.int i0), (.ref aL)])
  refine go (fun _ => XS.iloadN X619.here hx rfl (hb hby d12_23) rfl) ?_
  show Ends p e below s _ _ _ T619 (mkF m 24 #[rv a, rv aL, iv (0 : Int32)] [(.int (0 : Int32)), (.ref aw), (.long (F i0.toNatClampNeg)), (.int i0), (.ref aL)])
  obtain ⟨cl620, A620, -, S620, M620, H620, -⟩ := id P5
  have B620 := inb_of S620 (j := (0 : Int32)) (by decide)
  refine go (fun _ => X619.laload hx (j := (0 : Int32)) (v := (.long w0)) (by rw [e619]; exact A620.1) (State.isArrayOf_alike hZ.alike A620.2.1) A620.2.2 B620 (H620.at B620 rfl) (g := (mkF m 24 #[rv a, rv aL, iv (0 : Int32)] [(.int (0 : Int32)), (.ref aw), (.long (F i0.toNatClampNeg)), (.int i0), (.ref aL)])) rfl rfl (hb hby d12_24) _) ?_
  show Ends p e below s _ _ _ T619 (mkF m 25 #[rv a, rv aL, iv (0 : Int32)] [(.long w0), (.long (F i0.toNatClampNeg)), (.int i0), (.ref aL)])
  refine go (fun _ => XT.lor X619.here hx rfl (hb hby d12_25) rfl) ?_
  show Ends p e below s _ _ _ T619 (mkF m 26 #[rv a, rv aL, iv (0 : Int32)] [(.long ((F i0.toNatClampNeg) ||| w0)), (.int i0), (.ref aL)])
  obtain ⟨cl621, A621, q621, S621, M621, H621, G621⟩ := id VL
  obtain ⟨T621, h621, X621, e621, W621, s621⟩ := stJ X619 hx hZ e619 A621 (j := i0) (inb_of S621 g0) (g := (mkF m 26 #[rv a, rv aL, iv (0 : Int32)] [(.long ((F i0.toNatClampNeg) ||| w0)), (.int i0), (.ref aL)])) rfl rfl (hb hby d12_26)
  have N621 := Fr.snoc X621 (Fr.nil _) fL
  have O622 : Ext Z.heap h621 := xw O0 W621 fL
  have V621 : Arv Z h621 aL kL .long (4 : Int32) (own_b (own_add F i0.toNatClampNeg w0)) (.long 0) := by rw [← own_bset _ (own_lt4 g0)]; exact Arv.set A621 q621 S621 M621 H621 G621 rfl W621 _ rfl (own_lt4 g0)
  refine go s621 ?_
  show Ends p e below s _ _ _ T621 (mkF m 27 #[rv a, rv aL, iv (0 : Int32)] [])
  refine go (fun _ => XT.iincV X621.here hx rfl (1 : Int32) (hb hby d12_27) (by decide) rfl (l' := #[rv a, rv aL, iv (1 : Int32)]) rfl) ?_
  refine go (fun _ => XS.goto X621.here hx rfl (pc0 := 30) (pc' := 2) rfl (hb hby d12_30) (by decide) (by decide)) ?_
  refine go (fun _ => XS.iloadN X621.here hx rfl (hb hby d12_2) rfl) ?_
  refine go (fun _ => XS.aloadN X621.here hx rfl (hb hby d12_3) rfl rfl) ?_
  show Ends p e below s _ _ _ T621 (mkF m 4 #[rv a, rv aL, iv (1 : Int32)] [(.ref a), (.int (1 : Int32))])
  have F623 := (Fld.other W621 P2 (Or.inl m0))
  obtain ⟨T624, X624, e624, s624⟩ := getF X621 hx hZ hown (host := "") (Or.inl (hwi hw 28 rfl)) Via.refl e621 F623 (g := (mkF m 4 #[rv a, rv aL, iv (1 : Int32)] [(.ref a), (.int (1 : Int32))])) rfl rfl (hb hby d12_4)
  refine go s624 ?_
  show Ends p e below s _ _ _ T624 (mkF m 7 #[rv a, rv aL, iv (1 : Int32)] [(.int (2 : Int32)), (.int (1 : Int32))])
  refine go (fun _ => XS.icmpNo X624.here hx rfl (hb hby d12_7) rfl (XT.ii_ge_f ((by decide) : (1 : Int32) < (2 : Int32)))) ?_
  show Ends p e below s _ _ _ T624 (mkF m 10 #[rv a, rv aL, iv (1 : Int32)] [])
  refine go (fun _ => XS.aloadN X624.here hx rfl (hb hby d12_10) rfl rfl) ?_
  refine go (fun _ => XS.aloadN X624.here hx rfl (hb hby d12_11) rfl rfl) ?_
  show Ends p e below s _ _ _ T624 (mkF m 12 #[rv a, rv aL, iv (1 : Int32)] [(.ref a), (.ref aL)])
  have F625 := (Fld.other W621 P0 (Or.inl m0))
  obtain ⟨T626, X626, e626, s626⟩ := getF X624 hx hZ hown (host := "") (Or.inl (hwi hw 11 rfl)) Via.refl e624 F625 (g := (mkF m 12 #[rv a, rv aL, iv (1 : Int32)] [(.ref a), (.ref aL)])) rfl rfl (hb hby d12_12)
  refine go s626 ?_
  show Ends p e below s _ _ _ T626 (mkF m 15 #[rv a, rv aL, iv (1 : Int32)] [(.ref ai), (.ref aL)])
  refine go (fun _ => XS.iloadN X626.here hx rfl (hb hby d12_15) rfl) ?_
  show Ends p e below s _ _ _ T626 (mkF m 16 #[rv a, rv aL, iv (1 : Int32)] [(.int (1 : Int32)), (.ref ai), (.ref aL)])
  have F627 := (Arv.other P4 W621 m1)
  obtain ⟨cl628, A628, -, S628, M628, H628, -⟩ := id F627
  have B628 := inb_of S628 (j := (1 : Int32)) (by decide)
  refine go (fun _ => X626.iaload hx (j := (1 : Int32)) (v := (.int i1)) (by rw [e626]; exact A628.1) (State.isArrayOf_alike hZ.alike A628.2.1) A628.2.2 B628 (H628.at B628 rfl) (g := (mkF m 16 #[rv a, rv aL, iv (1 : Int32)] [(.int (1 : Int32)), (.ref ai), (.ref aL)])) rfl rfl (hb hby d12_16) _) ?_
  show Ends p e below s _ _ _ T626 (mkF m 17 #[rv a, rv aL, iv (1 : Int32)] [(.int i1), (.ref aL)])
  refine go (fun _ => XT.dup2 X626.here hx rfl (hb hby d12_17) rfl rfl rfl) ?_
  show Ends p e below s _ _ _ T626 (mkF m 18 #[rv a, rv aL, iv (1 : Int32)] [(.int i1), (.ref aL), (.int i1), (.ref aL)])
  obtain ⟨cl629, A629, -, S629, M629, H629, -⟩ := id V621
  have B629 := inb_of S629 (j := i1) g1
  refine go (fun _ => X626.laload hx (j := i1) (v := (.long ((own_add F i0.toNatClampNeg w0) i1.toNatClampNeg))) (by rw [e626]; exact A629.1) (State.isArrayOf_alike hZ.alike A629.2.1) A629.2.2 B629 (H629.at B629 (own_bget _ (own_lt4 g1))) (g := (mkF m 18 #[rv a, rv aL, iv (1 : Int32)] [(.int i1), (.ref aL), (.int i1), (.ref aL)])) rfl rfl (hb hby d12_18) _) ?_
  show Ends p e below s _ _ _ T626 (mkF m 19 #[rv a, rv aL, iv (1 : Int32)] [(.long ((own_add F i0.toNatClampNeg w0) i1.toNatClampNeg)), (.int i1), (.ref aL)])
  refine go (fun _ => XS.aloadN X626.here hx rfl (hb hby d12_19) rfl rfl) ?_
  show Ends p e below s _ _ _ T626 (mkF m 20 #[rv a, rv aL, iv (1 : Int32)] [(.ref a), (.long ((own_add F i0.toNatClampNeg w0) i1.toNatClampNeg)), (.int i1), (.ref aL)])
  have F630 := (Fld.other W621 P1 (Or.inl m0))
  obtain ⟨T631, X631, e631, s631⟩ := getF X626 hx hZ hown (host := "") (Or.inl (hwi hw 15 rfl)) Via.refl e626 F630 (g := (mkF m 20 #[rv a, rv aL, iv (1 : Int32)] [(.ref a), (.long ((own_add F i0.toNatClampNeg w0) i1.toNatClampNeg)), (.int i1), (.ref aL)])) rfl rfl (hb hby d12_20)
  refine go s631 ?_
  show Ends p e below s _ _ _ T631 (mkF m 23 #[rv a, rv aL, iv (1 : Int32)] [(.ref aw), (.long ((own_add F i0.toNatClampNeg w0) i1.toNatClampNeg)), (.int i1), (.ref aL)])
  refine go (fun _ => XS.iloadN X631.here hx rfl (hb hby d12_23) rfl) ?_
  show Ends p e below s _ _ _ T631 (mkF m 24 #[rv a, rv aL, iv (1 : Int32)] [(.int (1 : Int32)), (.ref aw), (.long ((own_add F i0.toNatClampNeg w0) i1.toNatClampNeg)), (.int i1), (.ref aL)])
  have F632 := (Arv.other P5 W621 m2)
  obtain ⟨cl633, A633, -, S633, M633, H633, -⟩ := id F632
  have B633 := inb_of S633 (j := (1 : Int32)) (by decide)
  refine go (fun _ => X631.laload hx (j := (1 : Int32)) (v := (.long w1)) (by rw [e631]; exact A633.1) (State.isArrayOf_alike hZ.alike A633.2.1) A633.2.2 B633 (H633.at B633 rfl) (g := (mkF m 24 #[rv a, rv aL, iv (1 : Int32)] [(.int (1 : Int32)), (.ref aw), (.long ((own_add F i0.toNatClampNeg w0) i1.toNatClampNeg)), (.int i1), (.ref aL)])) rfl rfl (hb hby d12_24) _) ?_
  show Ends p e below s _ _ _ T631 (mkF m 25 #[rv a, rv aL, iv (1 : Int32)] [(.long w1), (.long ((own_add F i0.toNatClampNeg w0) i1.toNatClampNeg)), (.int i1), (.ref aL)])
  refine go (fun _ => XT.lor X631.here hx rfl (hb hby d12_25) rfl) ?_
  show Ends p e below s _ _ _ T631 (mkF m 26 #[rv a, rv aL, iv (1 : Int32)] [(.long (((own_add F i0.toNatClampNeg w0) i1.toNatClampNeg) ||| w1)), (.int i1), (.ref aL)])
  obtain ⟨cl634, A634, q634, S634, M634, H634, G634⟩ := id V621
  obtain ⟨T634, h634, X634, e634, W634, s634⟩ := stJ X631 hx hZ e631 A634 (j := i1) (inb_of S634 g1) (g := (mkF m 26 #[rv a, rv aL, iv (1 : Int32)] [(.long (((own_add F i0.toNatClampNeg w0) i1.toNatClampNeg) ||| w1)), (.int i1), (.ref aL)])) rfl rfl (hb hby d12_26)
  have N634 := Fr.snoc X634 N621 fL
  have O635 : Ext Z.heap h634 := xw O622 W634 fL
  have V634 : Arv Z h634 aL kL .long (4 : Int32) (own_b (own_add (own_add F i0.toNatClampNeg w0) i1.toNatClampNeg w1)) (.long 0) := by rw [← own_bset _ (own_lt4 g1)]; exact Arv.set A634 q634 S634 M634 H634 G634 rfl W634 _ rfl (own_lt4 g1)
  refine go s634 ?_
  show Ends p e below s _ _ _ T634 (mkF m 27 #[rv a, rv aL, iv (1 : Int32)] [])
  refine go (fun _ => XT.iincV X634.here hx rfl (1 : Int32) (hb hby d12_27) (by decide) rfl (l' := #[rv a, rv aL, iv (2 : Int32)]) rfl) ?_
  refine go (fun _ => XS.goto X634.here hx rfl (pc0 := 30) (pc' := 2) rfl (hb hby d12_30) (by decide) (by decide)) ?_
  refine go (fun _ => XS.iloadN X634.here hx rfl (hb hby d12_2) rfl) ?_
  refine go (fun _ => XS.aloadN X634.here hx rfl (hb hby d12_3) rfl rfl) ?_
  show Ends p e below s _ _ _ T634 (mkF m 4 #[rv a, rv aL, iv (2 : Int32)] [(.ref a), (.int (2 : Int32))])
  have F636 := (Fld.other W634 F623 (Or.inl m0))
  obtain ⟨T637, X637, e637, s637⟩ := getF X634 hx hZ hown (host := "") (Or.inl (hwi hw 28 rfl)) Via.refl e634 F636 (g := (mkF m 4 #[rv a, rv aL, iv (2 : Int32)] [(.ref a), (.int (2 : Int32))])) rfl rfl (hb hby d12_4)
  refine go s637 ?_
  show Ends p e below s _ _ _ T637 (mkF m 7 #[rv a, rv aL, iv (2 : Int32)] [(.int (2 : Int32)), (.int (2 : Int32))])
  refine go (fun _ => XS.icmpYes X637.here hx rfl (pc0 := 7) (pc' := 33) rfl (hb hby d12_7) rfl (XT.ii_ge_t ((by decide) : ¬ ((2 : Int32) < (2 : Int32)))) (by decide) (by decide)) ?_
  show Ends p e below s _ _ _ T637 (mkF m 33 #[rv a, rv aL, iv (2 : Int32)] [])
  have K638 : Keep h0 h634 [aL] := (Keep.wr (Keep.wr (Keep.refl _ _) W621 (Or.inl (List.mem_of_getElem? (i := 0) rfl))) W634 (Or.inl (List.mem_of_getElem? (i := 0) rfl)))
  exact endV X637 hx hlk hret (hb hby d12_33) e637 ⟨rfl, N634, K638, V634⟩ (by decide) (by decide)
set_option maxRecDepth 65536 in
set_option maxHeartbeats 40000000 in
theorem rm_add2_1 {l : Launch} {Z : State} {a0 : Array Value} (hw : ∀ d ∈ tables_1, d.before a0 Z = true) (a ai aw : Addr) (ki kw : ClassId) (i0 i1 : Int32) (w0 w1 : Int64) (aL : Addr) (kL : ClassId) (F : Nat → Int64) (h0 : Heap) (O0 : Ext Z.heap h0) (f0 : Z.heap.size ≤ a) (E0 : Exa Z h0 a "com/example/libtbox/libtbox/core/SparseBitSet") (P0 : Fld Z h0 a "com/example/libtbox/libtbox/core/SparseBitSet" "indices" "[I" (.ref ai)) (P1 : Fld Z h0 a "com/example/libtbox/libtbox/core/SparseBitSet" "words" "[J" (.ref aw)) (P2 : Fld Z h0 a "com/example/libtbox/libtbox/core/SparseBitSet" "count" "I" (.int (2 : Int32))) (P3 : Fld Z h0 a "com/example/libtbox/libtbox/core/SparseBitSet" "lastFound" "I" (.int (1 : Int32))) (P4 : Arv Z h0 ai ki .int (2 : Int32) [(.int i0), (.int i1)] (.int 0)) (P5 : Arv Z h0 aw kw .long (2 : Int32) [(.long w0), (.long w1)] (.long 0)) (fi : Z.heap.size ≤ ai) (fw : Z.heap.size ≤ aw) (nai : a ≠ ai) (naw : a ≠ aw) (niw : ai ≠ aw) (VL : Arv Z h0 aL kL .long (4 : Int32) (own_b F) (.long 0)) (fL : Z.heap.size ≤ aL) (m0 : a ≠ aL) (m1 : ai ≠ aL) (m2 : aw ≠ aL) (g0 : ¬ i0 < 0 ∧ i0 < 4) (g1 : ¬ i1 < 0 ∧ i1 < 4) :
    Con l (⟨"com/example/libtbox/libtbox/core/SparseBitSet", "addTo", "([J)V"⟩ : MethodName) prog_51_method_14_code 3 none ({ frames := 0, cells := 0, slots := 0, locals := 0 } : Room) Z #[(.ref a), (.ref aL)] h0 (fun v h L => v = none ∧ Fr Z.heap.size L ∧ Keep h0 h [aL] ∧ Arv Z h aL kL .long (4 : Int32) (own_b (own_add (own_add F i0.toNatClampNeg w0) i1.toNatClampNeg w1)) (.long 0)) := by
  refine Con.of (plainFor_of_name pn_0) (Ls := #[rv a, rv aL, .unset]) (fun m => efOf rfl) ?_
  intro p e s m below meth c T0 X0 hx hZ hby hml hown hnm hret hlk e0
  refine go (fun _ => XT.iconstV X0.here hx rfl (0 : Int32) (hb hby d12_0) (by decide)) ?_
  refine go (fun _ => XS.istoreN X0.here hx rfl (hb hby d12_1) rfl (l' := #[rv a, rv aL, iv (0 : Int32)]) rfl) ?_
  refine go (fun _ => XS.iloadN X0.here hx rfl (hb hby d12_2) rfl) ?_
  refine go (fun _ => XS.aloadN X0.here hx rfl (hb hby d12_3) rfl rfl) ?_
  show Ends p e below s _ _ _ T0 (mkF m 4 #[rv a, rv aL, iv (0 : Int32)] [(.ref a), (.int (0 : Int32))])
  obtain ⟨T639, X639, e639, s639⟩ := getF X0 hx hZ hown (host := "") (Or.inl (hwi hw 28 rfl)) Via.refl e0 P2 (g := (mkF m 4 #[rv a, rv aL, iv (0 : Int32)] [(.ref a), (.int (0 : Int32))])) rfl rfl (hb hby d12_4)
  refine go s639 ?_
  show Ends p e below s _ _ _ T639 (mkF m 7 #[rv a, rv aL, iv (0 : Int32)] [(.int (2 : Int32)), (.int (0 : Int32))])
  refine go (fun _ => XS.icmpNo X639.here hx rfl (hb hby d12_7) rfl (XT.ii_ge_f ((by decide) : (0 : Int32) < (2 : Int32)))) ?_
  show Ends p e below s _ _ _ T639 (mkF m 10 #[rv a, rv aL, iv (0 : Int32)] [])
  refine go (fun _ => XS.aloadN X639.here hx rfl (hb hby d12_10) rfl rfl) ?_
  refine go (fun _ => XS.aloadN X639.here hx rfl (hb hby d12_11) rfl rfl) ?_
  show Ends p e below s _ _ _ T639 (mkF m 12 #[rv a, rv aL, iv (0 : Int32)] [(.ref a), (.ref aL)])
  obtain ⟨T640, X640, e640, s640⟩ := getF X639 hx hZ hown (host := "") (Or.inl (hwi hw 11 rfl)) Via.refl e639 P0 (g := (mkF m 12 #[rv a, rv aL, iv (0 : Int32)] [(.ref a), (.ref aL)])) rfl rfl (hb hby d12_12)
  refine go s640 ?_
  show Ends p e below s _ _ _ T640 (mkF m 15 #[rv a, rv aL, iv (0 : Int32)] [(.ref ai), (.ref aL)])
  refine go (fun _ => XS.iloadN X640.here hx rfl (hb hby d12_15) rfl) ?_
  show Ends p e below s _ _ _ T640 (mkF m 16 #[rv a, rv aL, iv (0 : Int32)] [(.int (0 : Int32)), (.ref ai), (.ref aL)])
  obtain ⟨cl641, A641, -, S641, M641, H641, -⟩ := id P4
  have B641 := inb_of S641 (j := (0 : Int32)) (by decide)
  refine go (fun _ => X640.iaload hx (j := (0 : Int32)) (v := (.int i0)) (by rw [e640]; exact A641.1) (State.isArrayOf_alike hZ.alike A641.2.1) A641.2.2 B641 (H641.at B641 rfl) (g := (mkF m 16 #[rv a, rv aL, iv (0 : Int32)] [(.int (0 : Int32)), (.ref ai), (.ref aL)])) rfl rfl (hb hby d12_16) _) ?_
  show Ends p e below s _ _ _ T640 (mkF m 17 #[rv a, rv aL, iv (0 : Int32)] [(.int i0), (.ref aL)])
  refine go (fun _ => XT.dup2 X640.here hx rfl (hb hby d12_17) rfl rfl rfl) ?_
  show Ends p e below s _ _ _ T640 (mkF m 18 #[rv a, rv aL, iv (0 : Int32)] [(.int i0), (.ref aL), (.int i0), (.ref aL)])
  obtain ⟨cl642, A642, -, S642, M642, H642, -⟩ := id VL
  have B642 := inb_of S642 (j := i0) g0
  refine go (fun _ => X640.laload hx (j := i0) (v := (.long (F i0.toNatClampNeg))) (by rw [e640]; exact A642.1) (State.isArrayOf_alike hZ.alike A642.2.1) A642.2.2 B642 (H642.at B642 (own_bget _ (own_lt4 g0))) (g := (mkF m 18 #[rv a, rv aL, iv (0 : Int32)] [(.int i0), (.ref aL), (.int i0), (.ref aL)])) rfl rfl (hb hby d12_18) _) ?_
  show Ends p e below s _ _ _ T640 (mkF m 19 #[rv a, rv aL, iv (0 : Int32)] [(.long (F i0.toNatClampNeg)), (.int i0), (.ref aL)])
  refine go (fun _ => XS.aloadN X640.here hx rfl (hb hby d12_19) rfl rfl) ?_
  show Ends p e below s _ _ _ T640 (mkF m 20 #[rv a, rv aL, iv (0 : Int32)] [(.ref a), (.long (F i0.toNatClampNeg)), (.int i0), (.ref aL)])
  obtain ⟨T643, X643, e643, s643⟩ := getF X640 hx hZ hown (host := "") (Or.inl (hwi hw 15 rfl)) Via.refl e640 P1 (g := (mkF m 20 #[rv a, rv aL, iv (0 : Int32)] [(.ref a), (.long (F i0.toNatClampNeg)), (.int i0), (.ref aL)])) rfl rfl (hb hby d12_20)
  refine go s643 ?_
  show Ends p e below s _ _ _ T643 (mkF m 23 #[rv a, rv aL, iv (0 : Int32)] [(.ref aw), (.long (F i0.toNatClampNeg)), (.int i0), (.ref aL)])
  refine go (fun _ => XS.iloadN X643.here hx rfl (hb hby d12_23) rfl) ?_
  show Ends p e below s _ _ _ T643 (mkF m 24 #[rv a, rv aL, iv (0 : Int32)] [(.int (0 : Int32)), (.ref aw), (.long (F i0.toNatClampNeg)), (.int i0), (.ref aL)])
  obtain ⟨cl644, A644, -, S644, M644, H644, -⟩ := id P5
  have B644 := inb_of S644 (j := (0 : Int32)) (by decide)
  refine go (fun _ => X643.laload hx (j := (0 : Int32)) (v := (.long w0)) (by rw [e643]; exact A644.1) (State.isArrayOf_alike hZ.alike A644.2.1) A644.2.2 B644 (H644.at B644 rfl) (g := (mkF m 24 #[rv a, rv aL, iv (0 : Int32)] [(.int (0 : Int32)), (.ref aw), (.long (F i0.toNatClampNeg)), (.int i0), (.ref aL)])) rfl rfl (hb hby d12_24) _) ?_
  show Ends p e below s _ _ _ T643 (mkF m 25 #[rv a, rv aL, iv (0 : Int32)] [(.long w0), (.long (F i0.toNatClampNeg)), (.int i0), (.ref aL)])
  refine go (fun _ => XT.lor X643.here hx rfl (hb hby d12_25) rfl) ?_
  show Ends p e below s _ _ _ T643 (mkF m 26 #[rv a, rv aL, iv (0 : Int32)] [(.long ((F i0.toNatClampNeg) ||| w0)), (.int i0), (.ref aL)])
  obtain ⟨cl645, A645, q645, S645, M645, H645, G645⟩ := id VL
  obtain ⟨T645, h645, X645, e645, W645, s645⟩ := stJ X643 hx hZ e643 A645 (j := i0) (inb_of S645 g0) (g := (mkF m 26 #[rv a, rv aL, iv (0 : Int32)] [(.long ((F i0.toNatClampNeg) ||| w0)), (.int i0), (.ref aL)])) rfl rfl (hb hby d12_26)
  have N645 := Fr.snoc X645 (Fr.nil _) fL
  have O646 : Ext Z.heap h645 := xw O0 W645 fL
  have V645 : Arv Z h645 aL kL .long (4 : Int32) (own_b (own_add F i0.toNatClampNeg w0)) (.long 0) := by rw [← own_bset _ (own_lt4 g0)]; exact Arv.set A645 q645 S645 M645 H645 G645 rfl W645 _ rfl (own_lt4 g0)
  refine go s645 ?_
  show Ends p e below s _ _ _ T645 (mkF m 27 #[rv a, rv aL, iv (0 : Int32)] [])
  refine go (fun _ => XT.iincV X645.here hx rfl (1 : Int32) (hb hby d12_27) (by decide) rfl (l' := #[rv a, rv aL, iv (1 : Int32)]) rfl) ?_
  refine go (fun _ => XS.goto X645.here hx rfl (pc0 := 30) (pc' := 2) rfl (hb hby d12_30) (by decide) (by decide)) ?_
  refine go (fun _ => XS.iloadN X645.here hx rfl (hb hby d12_2) rfl) ?_
  refine go (fun _ => XS.aloadN X645.here hx rfl (hb hby d12_3) rfl rfl) ?_
  show Ends p e below s _ _ _ T645 (mkF m 4 #[rv a, rv aL, iv (1 : Int32)] [(.ref a), (.int (1 : Int32))])
  have F647 := (Fld.other W645 P2 (Or.inl m0))
  obtain ⟨T648, X648, e648, s648⟩ := getF X645 hx hZ hown (host := "") (Or.inl (hwi hw 28 rfl)) Via.refl e645 F647 (g := (mkF m 4 #[rv a, rv aL, iv (1 : Int32)] [(.ref a), (.int (1 : Int32))])) rfl rfl (hb hby d12_4)
  refine go s648 ?_
  show Ends p e below s _ _ _ T648 (mkF m 7 #[rv a, rv aL, iv (1 : Int32)] [(.int (2 : Int32)), (.int (1 : Int32))])
  refine go (fun _ => XS.icmpNo X648.here hx rfl (hb hby d12_7) rfl (XT.ii_ge_f ((by decide) : (1 : Int32) < (2 : Int32)))) ?_
  show Ends p e below s _ _ _ T648 (mkF m 10 #[rv a, rv aL, iv (1 : Int32)] [])
  refine go (fun _ => XS.aloadN X648.here hx rfl (hb hby d12_10) rfl rfl) ?_
  refine go (fun _ => XS.aloadN X648.here hx rfl (hb hby d12_11) rfl rfl) ?_
  show Ends p e below s _ _ _ T648 (mkF m 12 #[rv a, rv aL, iv (1 : Int32)] [(.ref a), (.ref aL)])
  have F649 := (Fld.other W645 P0 (Or.inl m0))
  obtain ⟨T650, X650, e650, s650⟩ := getF X648 hx hZ hown (host := "") (Or.inl (hwi hw 11 rfl)) Via.refl e648 F649 (g := (mkF m 12 #[rv a, rv aL, iv (1 : Int32)] [(.ref a), (.ref aL)])) rfl rfl (hb hby d12_12)
  refine go s650 ?_
  show Ends p e below s _ _ _ T650 (mkF m 15 #[rv a, rv aL, iv (1 : Int32)] [(.ref ai), (.ref aL)])
  refine go (fun _ => XS.iloadN X650.here hx rfl (hb hby d12_15) rfl) ?_
  show Ends p e below s _ _ _ T650 (mkF m 16 #[rv a, rv aL, iv (1 : Int32)] [(.int (1 : Int32)), (.ref ai), (.ref aL)])
  have F651 := (Arv.other P4 W645 m1)
  obtain ⟨cl652, A652, -, S652, M652, H652, -⟩ := id F651
  have B652 := inb_of S652 (j := (1 : Int32)) (by decide)
  refine go (fun _ => X650.iaload hx (j := (1 : Int32)) (v := (.int i1)) (by rw [e650]; exact A652.1) (State.isArrayOf_alike hZ.alike A652.2.1) A652.2.2 B652 (H652.at B652 rfl) (g := (mkF m 16 #[rv a, rv aL, iv (1 : Int32)] [(.int (1 : Int32)), (.ref ai), (.ref aL)])) rfl rfl (hb hby d12_16) _) ?_
  show Ends p e below s _ _ _ T650 (mkF m 17 #[rv a, rv aL, iv (1 : Int32)] [(.int i1), (.ref aL)])
  refine go (fun _ => XT.dup2 X650.here hx rfl (hb hby d12_17) rfl rfl rfl) ?_
  show Ends p e below s _ _ _ T650 (mkF m 18 #[rv a, rv aL, iv (1 : Int32)] [(.int i1), (.ref aL), (.int i1), (.ref aL)])
  obtain ⟨cl653, A653, -, S653, M653, H653, -⟩ := id V645
  have B653 := inb_of S653 (j := i1) g1
  refine go (fun _ => X650.laload hx (j := i1) (v := (.long ((own_add F i0.toNatClampNeg w0) i1.toNatClampNeg))) (by rw [e650]; exact A653.1) (State.isArrayOf_alike hZ.alike A653.2.1) A653.2.2 B653 (H653.at B653 (own_bget _ (own_lt4 g1))) (g := (mkF m 18 #[rv a, rv aL, iv (1 : Int32)] [(.int i1), (.ref aL), (.int i1), (.ref aL)])) rfl rfl (hb hby d12_18) _) ?_
  show Ends p e below s _ _ _ T650 (mkF m 19 #[rv a, rv aL, iv (1 : Int32)] [(.long ((own_add F i0.toNatClampNeg w0) i1.toNatClampNeg)), (.int i1), (.ref aL)])
  refine go (fun _ => XS.aloadN X650.here hx rfl (hb hby d12_19) rfl rfl) ?_
  show Ends p e below s _ _ _ T650 (mkF m 20 #[rv a, rv aL, iv (1 : Int32)] [(.ref a), (.long ((own_add F i0.toNatClampNeg w0) i1.toNatClampNeg)), (.int i1), (.ref aL)])
  have F654 := (Fld.other W645 P1 (Or.inl m0))
  obtain ⟨T655, X655, e655, s655⟩ := getF X650 hx hZ hown (host := "") (Or.inl (hwi hw 15 rfl)) Via.refl e650 F654 (g := (mkF m 20 #[rv a, rv aL, iv (1 : Int32)] [(.ref a), (.long ((own_add F i0.toNatClampNeg w0) i1.toNatClampNeg)), (.int i1), (.ref aL)])) rfl rfl (hb hby d12_20)
  refine go s655 ?_
  show Ends p e below s _ _ _ T655 (mkF m 23 #[rv a, rv aL, iv (1 : Int32)] [(.ref aw), (.long ((own_add F i0.toNatClampNeg w0) i1.toNatClampNeg)), (.int i1), (.ref aL)])
  refine go (fun _ => XS.iloadN X655.here hx rfl (hb hby d12_23) rfl) ?_
  show Ends p e below s _ _ _ T655 (mkF m 24 #[rv a, rv aL, iv (1 : Int32)] [(.int (1 : Int32)), (.ref aw), (.long ((own_add F i0.toNatClampNeg w0) i1.toNatClampNeg)), (.int i1), (.ref aL)])
  have F656 := (Arv.other P5 W645 m2)
  obtain ⟨cl657, A657, -, S657, M657, H657, -⟩ := id F656
  have B657 := inb_of S657 (j := (1 : Int32)) (by decide)
  refine go (fun _ => X655.laload hx (j := (1 : Int32)) (v := (.long w1)) (by rw [e655]; exact A657.1) (State.isArrayOf_alike hZ.alike A657.2.1) A657.2.2 B657 (H657.at B657 rfl) (g := (mkF m 24 #[rv a, rv aL, iv (1 : Int32)] [(.int (1 : Int32)), (.ref aw), (.long ((own_add F i0.toNatClampNeg w0) i1.toNatClampNeg)), (.int i1), (.ref aL)])) rfl rfl (hb hby d12_24) _) ?_
  show Ends p e below s _ _ _ T655 (mkF m 25 #[rv a, rv aL, iv (1 : Int32)] [(.long w1), (.long ((own_add F i0.toNatClampNeg w0) i1.toNatClampNeg)), (.int i1), (.ref aL)])
  refine go (fun _ => XT.lor X655.here hx rfl (hb hby d12_25) rfl) ?_
  show Ends p e below s _ _ _ T655 (mkF m 26 #[rv a, rv aL, iv (1 : Int32)] [(.long (((own_add F i0.toNatClampNeg w0) i1.toNatClampNeg) ||| w1)), (.int i1), (.ref aL)])
  obtain ⟨cl658, A658, q658, S658, M658, H658, G658⟩ := id V645
  obtain ⟨T658, h658, X658, e658, W658, s658⟩ := stJ X655 hx hZ e655 A658 (j := i1) (inb_of S658 g1) (g := (mkF m 26 #[rv a, rv aL, iv (1 : Int32)] [(.long (((own_add F i0.toNatClampNeg w0) i1.toNatClampNeg) ||| w1)), (.int i1), (.ref aL)])) rfl rfl (hb hby d12_26)
  have N658 := Fr.snoc X658 N645 fL
  have O659 : Ext Z.heap h658 := xw O646 W658 fL
  have V658 : Arv Z h658 aL kL .long (4 : Int32) (own_b (own_add (own_add F i0.toNatClampNeg w0) i1.toNatClampNeg w1)) (.long 0) := by rw [← own_bset _ (own_lt4 g1)]; exact Arv.set A658 q658 S658 M658 H658 G658 rfl W658 _ rfl (own_lt4 g1)
  refine go s658 ?_
  show Ends p e below s _ _ _ T658 (mkF m 27 #[rv a, rv aL, iv (1 : Int32)] [])
  refine go (fun _ => XT.iincV X658.here hx rfl (1 : Int32) (hb hby d12_27) (by decide) rfl (l' := #[rv a, rv aL, iv (2 : Int32)]) rfl) ?_
  refine go (fun _ => XS.goto X658.here hx rfl (pc0 := 30) (pc' := 2) rfl (hb hby d12_30) (by decide) (by decide)) ?_
  refine go (fun _ => XS.iloadN X658.here hx rfl (hb hby d12_2) rfl) ?_
  refine go (fun _ => XS.aloadN X658.here hx rfl (hb hby d12_3) rfl rfl) ?_
  show Ends p e below s _ _ _ T658 (mkF m 4 #[rv a, rv aL, iv (2 : Int32)] [(.ref a), (.int (2 : Int32))])
  have F660 := (Fld.other W658 F647 (Or.inl m0))
  obtain ⟨T661, X661, e661, s661⟩ := getF X658 hx hZ hown (host := "") (Or.inl (hwi hw 28 rfl)) Via.refl e658 F660 (g := (mkF m 4 #[rv a, rv aL, iv (2 : Int32)] [(.ref a), (.int (2 : Int32))])) rfl rfl (hb hby d12_4)
  refine go s661 ?_
  show Ends p e below s _ _ _ T661 (mkF m 7 #[rv a, rv aL, iv (2 : Int32)] [(.int (2 : Int32)), (.int (2 : Int32))])
  refine go (fun _ => XS.icmpYes X661.here hx rfl (pc0 := 7) (pc' := 33) rfl (hb hby d12_7) rfl (XT.ii_ge_t ((by decide) : ¬ ((2 : Int32) < (2 : Int32)))) (by decide) (by decide)) ?_
  show Ends p e below s _ _ _ T661 (mkF m 33 #[rv a, rv aL, iv (2 : Int32)] [])
  have K662 : Keep h0 h658 [aL] := (Keep.wr (Keep.wr (Keep.refl _ _) W645 (Or.inl (List.mem_of_getElem? (i := 0) rfl))) W658 (Or.inl (List.mem_of_getElem? (i := 0) rfl)))
  exact endV X661 hx hlk hret (hb hby d12_33) e661 ⟨rfl, N658, K662, V658⟩ (by decide) (by decide)
set_option maxRecDepth 65536 in
set_option maxHeartbeats 40000000 in
theorem rm_add3_0 {l : Launch} {Z : State} {a0 : Array Value} (hw : ∀ d ∈ tables_1, d.before a0 Z = true) (a ai aw : Addr) (ki kw : ClassId) (i0 i1 i2 : Int32) (w0 w1 w2 : Int64) (aL : Addr) (kL : ClassId) (F : Nat → Int64) (h0 : Heap) (O0 : Ext Z.heap h0) (f0 : Z.heap.size ≤ a) (E0 : Exa Z h0 a "com/example/libtbox/libtbox/core/SparseBitSet") (P0 : Fld Z h0 a "com/example/libtbox/libtbox/core/SparseBitSet" "indices" "[I" (.ref ai)) (P1 : Fld Z h0 a "com/example/libtbox/libtbox/core/SparseBitSet" "words" "[J" (.ref aw)) (P2 : Fld Z h0 a "com/example/libtbox/libtbox/core/SparseBitSet" "count" "I" (.int (3 : Int32))) (P3 : Fld Z h0 a "com/example/libtbox/libtbox/core/SparseBitSet" "lastFound" "I" (.int (0 : Int32))) (P4 : Arv Z h0 ai ki .int (4 : Int32) [(.int i0), (.int i1), (.int i2), (.int (0 : Int32))] (.int 0)) (P5 : Arv Z h0 aw kw .long (4 : Int32) [(.long w0), (.long w1), (.long w2), (.long (0 : Int64))] (.long 0)) (fi : Z.heap.size ≤ ai) (fw : Z.heap.size ≤ aw) (nai : a ≠ ai) (naw : a ≠ aw) (niw : ai ≠ aw) (VL : Arv Z h0 aL kL .long (4 : Int32) (own_b F) (.long 0)) (fL : Z.heap.size ≤ aL) (m0 : a ≠ aL) (m1 : ai ≠ aL) (m2 : aw ≠ aL) (g0 : ¬ i0 < 0 ∧ i0 < 4) (g1 : ¬ i1 < 0 ∧ i1 < 4) (g2 : ¬ i2 < 0 ∧ i2 < 4) :
    Con l (⟨"com/example/libtbox/libtbox/core/SparseBitSet", "addTo", "([J)V"⟩ : MethodName) prog_51_method_14_code 3 none ({ frames := 0, cells := 0, slots := 0, locals := 0 } : Room) Z #[(.ref a), (.ref aL)] h0 (fun v h L => v = none ∧ Fr Z.heap.size L ∧ Keep h0 h [aL] ∧ Arv Z h aL kL .long (4 : Int32) (own_b (own_add (own_add (own_add F i0.toNatClampNeg w0) i1.toNatClampNeg w1) i2.toNatClampNeg w2)) (.long 0)) := by
  refine Con.of (plainFor_of_name pn_0) (Ls := #[rv a, rv aL, .unset]) (fun m => efOf rfl) ?_
  intro p e s m below meth c T0 X0 hx hZ hby hml hown hnm hret hlk e0
  refine go (fun _ => XT.iconstV X0.here hx rfl (0 : Int32) (hb hby d12_0) (by decide)) ?_
  refine go (fun _ => XS.istoreN X0.here hx rfl (hb hby d12_1) rfl (l' := #[rv a, rv aL, iv (0 : Int32)]) rfl) ?_
  refine go (fun _ => XS.iloadN X0.here hx rfl (hb hby d12_2) rfl) ?_
  refine go (fun _ => XS.aloadN X0.here hx rfl (hb hby d12_3) rfl rfl) ?_
  show Ends p e below s _ _ _ T0 (mkF m 4 #[rv a, rv aL, iv (0 : Int32)] [(.ref a), (.int (0 : Int32))])
  obtain ⟨T663, X663, e663, s663⟩ := getF X0 hx hZ hown (host := "") (Or.inl (hwi hw 28 rfl)) Via.refl e0 P2 (g := (mkF m 4 #[rv a, rv aL, iv (0 : Int32)] [(.ref a), (.int (0 : Int32))])) rfl rfl (hb hby d12_4)
  refine go s663 ?_
  show Ends p e below s _ _ _ T663 (mkF m 7 #[rv a, rv aL, iv (0 : Int32)] [(.int (3 : Int32)), (.int (0 : Int32))])
  refine go (fun _ => XS.icmpNo X663.here hx rfl (hb hby d12_7) rfl (XT.ii_ge_f ((by decide) : (0 : Int32) < (3 : Int32)))) ?_
  show Ends p e below s _ _ _ T663 (mkF m 10 #[rv a, rv aL, iv (0 : Int32)] [])
  refine go (fun _ => XS.aloadN X663.here hx rfl (hb hby d12_10) rfl rfl) ?_
  refine go (fun _ => XS.aloadN X663.here hx rfl (hb hby d12_11) rfl rfl) ?_
  show Ends p e below s _ _ _ T663 (mkF m 12 #[rv a, rv aL, iv (0 : Int32)] [(.ref a), (.ref aL)])
  obtain ⟨T664, X664, e664, s664⟩ := getF X663 hx hZ hown (host := "") (Or.inl (hwi hw 11 rfl)) Via.refl e663 P0 (g := (mkF m 12 #[rv a, rv aL, iv (0 : Int32)] [(.ref a), (.ref aL)])) rfl rfl (hb hby d12_12)
  refine go s664 ?_
  show Ends p e below s _ _ _ T664 (mkF m 15 #[rv a, rv aL, iv (0 : Int32)] [(.ref ai), (.ref aL)])
  refine go (fun _ => XS.iloadN X664.here hx rfl (hb hby d12_15) rfl) ?_
  show Ends p e below s _ _ _ T664 (mkF m 16 #[rv a, rv aL, iv (0 : Int32)] [(.int (0 : Int32)), (.ref ai), (.ref aL)])
  obtain ⟨cl665, A665, -, S665, M665, H665, -⟩ := id P4
  have B665 := inb_of S665 (j := (0 : Int32)) (by decide)
  refine go (fun _ => X664.iaload hx (j := (0 : Int32)) (v := (.int i0)) (by rw [e664]; exact A665.1) (State.isArrayOf_alike hZ.alike A665.2.1) A665.2.2 B665 (H665.at B665 rfl) (g := (mkF m 16 #[rv a, rv aL, iv (0 : Int32)] [(.int (0 : Int32)), (.ref ai), (.ref aL)])) rfl rfl (hb hby d12_16) _) ?_
  show Ends p e below s _ _ _ T664 (mkF m 17 #[rv a, rv aL, iv (0 : Int32)] [(.int i0), (.ref aL)])
  refine go (fun _ => XT.dup2 X664.here hx rfl (hb hby d12_17) rfl rfl rfl) ?_
  show Ends p e below s _ _ _ T664 (mkF m 18 #[rv a, rv aL, iv (0 : Int32)] [(.int i0), (.ref aL), (.int i0), (.ref aL)])
  obtain ⟨cl666, A666, -, S666, M666, H666, -⟩ := id VL
  have B666 := inb_of S666 (j := i0) g0
  refine go (fun _ => X664.laload hx (j := i0) (v := (.long (F i0.toNatClampNeg))) (by rw [e664]; exact A666.1) (State.isArrayOf_alike hZ.alike A666.2.1) A666.2.2 B666 (H666.at B666 (own_bget _ (own_lt4 g0))) (g := (mkF m 18 #[rv a, rv aL, iv (0 : Int32)] [(.int i0), (.ref aL), (.int i0), (.ref aL)])) rfl rfl (hb hby d12_18) _) ?_
  show Ends p e below s _ _ _ T664 (mkF m 19 #[rv a, rv aL, iv (0 : Int32)] [(.long (F i0.toNatClampNeg)), (.int i0), (.ref aL)])
  refine go (fun _ => XS.aloadN X664.here hx rfl (hb hby d12_19) rfl rfl) ?_
  show Ends p e below s _ _ _ T664 (mkF m 20 #[rv a, rv aL, iv (0 : Int32)] [(.ref a), (.long (F i0.toNatClampNeg)), (.int i0), (.ref aL)])
  obtain ⟨T667, X667, e667, s667⟩ := getF X664 hx hZ hown (host := "") (Or.inl (hwi hw 15 rfl)) Via.refl e664 P1 (g := (mkF m 20 #[rv a, rv aL, iv (0 : Int32)] [(.ref a), (.long (F i0.toNatClampNeg)), (.int i0), (.ref aL)])) rfl rfl (hb hby d12_20)
  refine go s667 ?_
  show Ends p e below s _ _ _ T667 (mkF m 23 #[rv a, rv aL, iv (0 : Int32)] [(.ref aw), (.long (F i0.toNatClampNeg)), (.int i0), (.ref aL)])
  refine go (fun _ => XS.iloadN X667.here hx rfl (hb hby d12_23) rfl) ?_
  show Ends p e below s _ _ _ T667 (mkF m 24 #[rv a, rv aL, iv (0 : Int32)] [(.int (0 : Int32)), (.ref aw), (.long (F i0.toNatClampNeg)), (.int i0), (.ref aL)])
  obtain ⟨cl668, A668, -, S668, M668, H668, -⟩ := id P5
  have B668 := inb_of S668 (j := (0 : Int32)) (by decide)
  refine go (fun _ => X667.laload hx (j := (0 : Int32)) (v := (.long w0)) (by rw [e667]; exact A668.1) (State.isArrayOf_alike hZ.alike A668.2.1) A668.2.2 B668 (H668.at B668 rfl) (g := (mkF m 24 #[rv a, rv aL, iv (0 : Int32)] [(.int (0 : Int32)), (.ref aw), (.long (F i0.toNatClampNeg)), (.int i0), (.ref aL)])) rfl rfl (hb hby d12_24) _) ?_
  show Ends p e below s _ _ _ T667 (mkF m 25 #[rv a, rv aL, iv (0 : Int32)] [(.long w0), (.long (F i0.toNatClampNeg)), (.int i0), (.ref aL)])
  refine go (fun _ => XT.lor X667.here hx rfl (hb hby d12_25) rfl) ?_
  show Ends p e below s _ _ _ T667 (mkF m 26 #[rv a, rv aL, iv (0 : Int32)] [(.long ((F i0.toNatClampNeg) ||| w0)), (.int i0), (.ref aL)])
  obtain ⟨cl669, A669, q669, S669, M669, H669, G669⟩ := id VL
  obtain ⟨T669, h669, X669, e669, W669, s669⟩ := stJ X667 hx hZ e667 A669 (j := i0) (inb_of S669 g0) (g := (mkF m 26 #[rv a, rv aL, iv (0 : Int32)] [(.long ((F i0.toNatClampNeg) ||| w0)), (.int i0), (.ref aL)])) rfl rfl (hb hby d12_26)
  have N669 := Fr.snoc X669 (Fr.nil _) fL
  have O670 : Ext Z.heap h669 := xw O0 W669 fL
  have V669 : Arv Z h669 aL kL .long (4 : Int32) (own_b (own_add F i0.toNatClampNeg w0)) (.long 0) := by rw [← own_bset _ (own_lt4 g0)]; exact Arv.set A669 q669 S669 M669 H669 G669 rfl W669 _ rfl (own_lt4 g0)
  refine go s669 ?_
  show Ends p e below s _ _ _ T669 (mkF m 27 #[rv a, rv aL, iv (0 : Int32)] [])
  refine go (fun _ => XT.iincV X669.here hx rfl (1 : Int32) (hb hby d12_27) (by decide) rfl (l' := #[rv a, rv aL, iv (1 : Int32)]) rfl) ?_
  refine go (fun _ => XS.goto X669.here hx rfl (pc0 := 30) (pc' := 2) rfl (hb hby d12_30) (by decide) (by decide)) ?_
  refine go (fun _ => XS.iloadN X669.here hx rfl (hb hby d12_2) rfl) ?_
  refine go (fun _ => XS.aloadN X669.here hx rfl (hb hby d12_3) rfl rfl) ?_
  show Ends p e below s _ _ _ T669 (mkF m 4 #[rv a, rv aL, iv (1 : Int32)] [(.ref a), (.int (1 : Int32))])
  have F671 := (Fld.other W669 P2 (Or.inl m0))
  obtain ⟨T672, X672, e672, s672⟩ := getF X669 hx hZ hown (host := "") (Or.inl (hwi hw 28 rfl)) Via.refl e669 F671 (g := (mkF m 4 #[rv a, rv aL, iv (1 : Int32)] [(.ref a), (.int (1 : Int32))])) rfl rfl (hb hby d12_4)
  refine go s672 ?_
  show Ends p e below s _ _ _ T672 (mkF m 7 #[rv a, rv aL, iv (1 : Int32)] [(.int (3 : Int32)), (.int (1 : Int32))])
  refine go (fun _ => XS.icmpNo X672.here hx rfl (hb hby d12_7) rfl (XT.ii_ge_f ((by decide) : (1 : Int32) < (3 : Int32)))) ?_
  show Ends p e below s _ _ _ T672 (mkF m 10 #[rv a, rv aL, iv (1 : Int32)] [])
  refine go (fun _ => XS.aloadN X672.here hx rfl (hb hby d12_10) rfl rfl) ?_
  refine go (fun _ => XS.aloadN X672.here hx rfl (hb hby d12_11) rfl rfl) ?_
  show Ends p e below s _ _ _ T672 (mkF m 12 #[rv a, rv aL, iv (1 : Int32)] [(.ref a), (.ref aL)])
  have F673 := (Fld.other W669 P0 (Or.inl m0))
  obtain ⟨T674, X674, e674, s674⟩ := getF X672 hx hZ hown (host := "") (Or.inl (hwi hw 11 rfl)) Via.refl e672 F673 (g := (mkF m 12 #[rv a, rv aL, iv (1 : Int32)] [(.ref a), (.ref aL)])) rfl rfl (hb hby d12_12)
  refine go s674 ?_
  show Ends p e below s _ _ _ T674 (mkF m 15 #[rv a, rv aL, iv (1 : Int32)] [(.ref ai), (.ref aL)])
  refine go (fun _ => XS.iloadN X674.here hx rfl (hb hby d12_15) rfl) ?_
  show Ends p e below s _ _ _ T674 (mkF m 16 #[rv a, rv aL, iv (1 : Int32)] [(.int (1 : Int32)), (.ref ai), (.ref aL)])
  have F675 := (Arv.other P4 W669 m1)
  obtain ⟨cl676, A676, -, S676, M676, H676, -⟩ := id F675
  have B676 := inb_of S676 (j := (1 : Int32)) (by decide)
  refine go (fun _ => X674.iaload hx (j := (1 : Int32)) (v := (.int i1)) (by rw [e674]; exact A676.1) (State.isArrayOf_alike hZ.alike A676.2.1) A676.2.2 B676 (H676.at B676 rfl) (g := (mkF m 16 #[rv a, rv aL, iv (1 : Int32)] [(.int (1 : Int32)), (.ref ai), (.ref aL)])) rfl rfl (hb hby d12_16) _) ?_
  show Ends p e below s _ _ _ T674 (mkF m 17 #[rv a, rv aL, iv (1 : Int32)] [(.int i1), (.ref aL)])
  refine go (fun _ => XT.dup2 X674.here hx rfl (hb hby d12_17) rfl rfl rfl) ?_
  show Ends p e below s _ _ _ T674 (mkF m 18 #[rv a, rv aL, iv (1 : Int32)] [(.int i1), (.ref aL), (.int i1), (.ref aL)])
  obtain ⟨cl677, A677, -, S677, M677, H677, -⟩ := id V669
  have B677 := inb_of S677 (j := i1) g1
  refine go (fun _ => X674.laload hx (j := i1) (v := (.long ((own_add F i0.toNatClampNeg w0) i1.toNatClampNeg))) (by rw [e674]; exact A677.1) (State.isArrayOf_alike hZ.alike A677.2.1) A677.2.2 B677 (H677.at B677 (own_bget _ (own_lt4 g1))) (g := (mkF m 18 #[rv a, rv aL, iv (1 : Int32)] [(.int i1), (.ref aL), (.int i1), (.ref aL)])) rfl rfl (hb hby d12_18) _) ?_
  show Ends p e below s _ _ _ T674 (mkF m 19 #[rv a, rv aL, iv (1 : Int32)] [(.long ((own_add F i0.toNatClampNeg w0) i1.toNatClampNeg)), (.int i1), (.ref aL)])
  refine go (fun _ => XS.aloadN X674.here hx rfl (hb hby d12_19) rfl rfl) ?_
  show Ends p e below s _ _ _ T674 (mkF m 20 #[rv a, rv aL, iv (1 : Int32)] [(.ref a), (.long ((own_add F i0.toNatClampNeg w0) i1.toNatClampNeg)), (.int i1), (.ref aL)])
  have F678 := (Fld.other W669 P1 (Or.inl m0))
  obtain ⟨T679, X679, e679, s679⟩ := getF X674 hx hZ hown (host := "") (Or.inl (hwi hw 15 rfl)) Via.refl e674 F678 (g := (mkF m 20 #[rv a, rv aL, iv (1 : Int32)] [(.ref a), (.long ((own_add F i0.toNatClampNeg w0) i1.toNatClampNeg)), (.int i1), (.ref aL)])) rfl rfl (hb hby d12_20)
  refine go s679 ?_
  show Ends p e below s _ _ _ T679 (mkF m 23 #[rv a, rv aL, iv (1 : Int32)] [(.ref aw), (.long ((own_add F i0.toNatClampNeg w0) i1.toNatClampNeg)), (.int i1), (.ref aL)])
  refine go (fun _ => XS.iloadN X679.here hx rfl (hb hby d12_23) rfl) ?_
  show Ends p e below s _ _ _ T679 (mkF m 24 #[rv a, rv aL, iv (1 : Int32)] [(.int (1 : Int32)), (.ref aw), (.long ((own_add F i0.toNatClampNeg w0) i1.toNatClampNeg)), (.int i1), (.ref aL)])
  have F680 := (Arv.other P5 W669 m2)
  obtain ⟨cl681, A681, -, S681, M681, H681, -⟩ := id F680
  have B681 := inb_of S681 (j := (1 : Int32)) (by decide)
  refine go (fun _ => X679.laload hx (j := (1 : Int32)) (v := (.long w1)) (by rw [e679]; exact A681.1) (State.isArrayOf_alike hZ.alike A681.2.1) A681.2.2 B681 (H681.at B681 rfl) (g := (mkF m 24 #[rv a, rv aL, iv (1 : Int32)] [(.int (1 : Int32)), (.ref aw), (.long ((own_add F i0.toNatClampNeg w0) i1.toNatClampNeg)), (.int i1), (.ref aL)])) rfl rfl (hb hby d12_24) _) ?_
  show Ends p e below s _ _ _ T679 (mkF m 25 #[rv a, rv aL, iv (1 : Int32)] [(.long w1), (.long ((own_add F i0.toNatClampNeg w0) i1.toNatClampNeg)), (.int i1), (.ref aL)])
  refine go (fun _ => XT.lor X679.here hx rfl (hb hby d12_25) rfl) ?_
  show Ends p e below s _ _ _ T679 (mkF m 26 #[rv a, rv aL, iv (1 : Int32)] [(.long (((own_add F i0.toNatClampNeg w0) i1.toNatClampNeg) ||| w1)), (.int i1), (.ref aL)])
  obtain ⟨cl682, A682, q682, S682, M682, H682, G682⟩ := id V669
  obtain ⟨T682, h682, X682, e682, W682, s682⟩ := stJ X679 hx hZ e679 A682 (j := i1) (inb_of S682 g1) (g := (mkF m 26 #[rv a, rv aL, iv (1 : Int32)] [(.long (((own_add F i0.toNatClampNeg w0) i1.toNatClampNeg) ||| w1)), (.int i1), (.ref aL)])) rfl rfl (hb hby d12_26)
  have N682 := Fr.snoc X682 N669 fL
  have O683 : Ext Z.heap h682 := xw O670 W682 fL
  have V682 : Arv Z h682 aL kL .long (4 : Int32) (own_b (own_add (own_add F i0.toNatClampNeg w0) i1.toNatClampNeg w1)) (.long 0) := by rw [← own_bset _ (own_lt4 g1)]; exact Arv.set A682 q682 S682 M682 H682 G682 rfl W682 _ rfl (own_lt4 g1)
  refine go s682 ?_
  show Ends p e below s _ _ _ T682 (mkF m 27 #[rv a, rv aL, iv (1 : Int32)] [])
  refine go (fun _ => XT.iincV X682.here hx rfl (1 : Int32) (hb hby d12_27) (by decide) rfl (l' := #[rv a, rv aL, iv (2 : Int32)]) rfl) ?_
  refine go (fun _ => XS.goto X682.here hx rfl (pc0 := 30) (pc' := 2) rfl (hb hby d12_30) (by decide) (by decide)) ?_
  refine go (fun _ => XS.iloadN X682.here hx rfl (hb hby d12_2) rfl) ?_
  refine go (fun _ => XS.aloadN X682.here hx rfl (hb hby d12_3) rfl rfl) ?_
  show Ends p e below s _ _ _ T682 (mkF m 4 #[rv a, rv aL, iv (2 : Int32)] [(.ref a), (.int (2 : Int32))])
  have F684 := (Fld.other W682 F671 (Or.inl m0))
  obtain ⟨T685, X685, e685, s685⟩ := getF X682 hx hZ hown (host := "") (Or.inl (hwi hw 28 rfl)) Via.refl e682 F684 (g := (mkF m 4 #[rv a, rv aL, iv (2 : Int32)] [(.ref a), (.int (2 : Int32))])) rfl rfl (hb hby d12_4)
  refine go s685 ?_
  show Ends p e below s _ _ _ T685 (mkF m 7 #[rv a, rv aL, iv (2 : Int32)] [(.int (3 : Int32)), (.int (2 : Int32))])
  refine go (fun _ => XS.icmpNo X685.here hx rfl (hb hby d12_7) rfl (XT.ii_ge_f ((by decide) : (2 : Int32) < (3 : Int32)))) ?_
  show Ends p e below s _ _ _ T685 (mkF m 10 #[rv a, rv aL, iv (2 : Int32)] [])
  refine go (fun _ => XS.aloadN X685.here hx rfl (hb hby d12_10) rfl rfl) ?_
  refine go (fun _ => XS.aloadN X685.here hx rfl (hb hby d12_11) rfl rfl) ?_
  show Ends p e below s _ _ _ T685 (mkF m 12 #[rv a, rv aL, iv (2 : Int32)] [(.ref a), (.ref aL)])
  have F686 := (Fld.other W682 F673 (Or.inl m0))
  obtain ⟨T687, X687, e687, s687⟩ := getF X685 hx hZ hown (host := "") (Or.inl (hwi hw 11 rfl)) Via.refl e685 F686 (g := (mkF m 12 #[rv a, rv aL, iv (2 : Int32)] [(.ref a), (.ref aL)])) rfl rfl (hb hby d12_12)
  refine go s687 ?_
  show Ends p e below s _ _ _ T687 (mkF m 15 #[rv a, rv aL, iv (2 : Int32)] [(.ref ai), (.ref aL)])
  refine go (fun _ => XS.iloadN X687.here hx rfl (hb hby d12_15) rfl) ?_
  show Ends p e below s _ _ _ T687 (mkF m 16 #[rv a, rv aL, iv (2 : Int32)] [(.int (2 : Int32)), (.ref ai), (.ref aL)])
  have F688 := (Arv.other F675 W682 m1)
  obtain ⟨cl689, A689, -, S689, M689, H689, -⟩ := id F688
  have B689 := inb_of S689 (j := (2 : Int32)) (by decide)
  refine go (fun _ => X687.iaload hx (j := (2 : Int32)) (v := (.int i2)) (by rw [e687]; exact A689.1) (State.isArrayOf_alike hZ.alike A689.2.1) A689.2.2 B689 (H689.at B689 rfl) (g := (mkF m 16 #[rv a, rv aL, iv (2 : Int32)] [(.int (2 : Int32)), (.ref ai), (.ref aL)])) rfl rfl (hb hby d12_16) _) ?_
  show Ends p e below s _ _ _ T687 (mkF m 17 #[rv a, rv aL, iv (2 : Int32)] [(.int i2), (.ref aL)])
  refine go (fun _ => XT.dup2 X687.here hx rfl (hb hby d12_17) rfl rfl rfl) ?_
  show Ends p e below s _ _ _ T687 (mkF m 18 #[rv a, rv aL, iv (2 : Int32)] [(.int i2), (.ref aL), (.int i2), (.ref aL)])
  obtain ⟨cl690, A690, -, S690, M690, H690, -⟩ := id V682
  have B690 := inb_of S690 (j := i2) g2
  refine go (fun _ => X687.laload hx (j := i2) (v := (.long ((own_add (own_add F i0.toNatClampNeg w0) i1.toNatClampNeg w1) i2.toNatClampNeg))) (by rw [e687]; exact A690.1) (State.isArrayOf_alike hZ.alike A690.2.1) A690.2.2 B690 (H690.at B690 (own_bget _ (own_lt4 g2))) (g := (mkF m 18 #[rv a, rv aL, iv (2 : Int32)] [(.int i2), (.ref aL), (.int i2), (.ref aL)])) rfl rfl (hb hby d12_18) _) ?_
  show Ends p e below s _ _ _ T687 (mkF m 19 #[rv a, rv aL, iv (2 : Int32)] [(.long ((own_add (own_add F i0.toNatClampNeg w0) i1.toNatClampNeg w1) i2.toNatClampNeg)), (.int i2), (.ref aL)])
  refine go (fun _ => XS.aloadN X687.here hx rfl (hb hby d12_19) rfl rfl) ?_
  show Ends p e below s _ _ _ T687 (mkF m 20 #[rv a, rv aL, iv (2 : Int32)] [(.ref a), (.long ((own_add (own_add F i0.toNatClampNeg w0) i1.toNatClampNeg w1) i2.toNatClampNeg)), (.int i2), (.ref aL)])
  have F691 := (Fld.other W682 F678 (Or.inl m0))
  obtain ⟨T692, X692, e692, s692⟩ := getF X687 hx hZ hown (host := "") (Or.inl (hwi hw 15 rfl)) Via.refl e687 F691 (g := (mkF m 20 #[rv a, rv aL, iv (2 : Int32)] [(.ref a), (.long ((own_add (own_add F i0.toNatClampNeg w0) i1.toNatClampNeg w1) i2.toNatClampNeg)), (.int i2), (.ref aL)])) rfl rfl (hb hby d12_20)
  refine go s692 ?_
  show Ends p e below s _ _ _ T692 (mkF m 23 #[rv a, rv aL, iv (2 : Int32)] [(.ref aw), (.long ((own_add (own_add F i0.toNatClampNeg w0) i1.toNatClampNeg w1) i2.toNatClampNeg)), (.int i2), (.ref aL)])
  refine go (fun _ => XS.iloadN X692.here hx rfl (hb hby d12_23) rfl) ?_
  show Ends p e below s _ _ _ T692 (mkF m 24 #[rv a, rv aL, iv (2 : Int32)] [(.int (2 : Int32)), (.ref aw), (.long ((own_add (own_add F i0.toNatClampNeg w0) i1.toNatClampNeg w1) i2.toNatClampNeg)), (.int i2), (.ref aL)])
  have F693 := (Arv.other F680 W682 m2)
  obtain ⟨cl694, A694, -, S694, M694, H694, -⟩ := id F693
  have B694 := inb_of S694 (j := (2 : Int32)) (by decide)
  refine go (fun _ => X692.laload hx (j := (2 : Int32)) (v := (.long w2)) (by rw [e692]; exact A694.1) (State.isArrayOf_alike hZ.alike A694.2.1) A694.2.2 B694 (H694.at B694 rfl) (g := (mkF m 24 #[rv a, rv aL, iv (2 : Int32)] [(.int (2 : Int32)), (.ref aw), (.long ((own_add (own_add F i0.toNatClampNeg w0) i1.toNatClampNeg w1) i2.toNatClampNeg)), (.int i2), (.ref aL)])) rfl rfl (hb hby d12_24) _) ?_
  show Ends p e below s _ _ _ T692 (mkF m 25 #[rv a, rv aL, iv (2 : Int32)] [(.long w2), (.long ((own_add (own_add F i0.toNatClampNeg w0) i1.toNatClampNeg w1) i2.toNatClampNeg)), (.int i2), (.ref aL)])
  refine go (fun _ => XT.lor X692.here hx rfl (hb hby d12_25) rfl) ?_
  show Ends p e below s _ _ _ T692 (mkF m 26 #[rv a, rv aL, iv (2 : Int32)] [(.long (((own_add (own_add F i0.toNatClampNeg w0) i1.toNatClampNeg w1) i2.toNatClampNeg) ||| w2)), (.int i2), (.ref aL)])
  obtain ⟨cl695, A695, q695, S695, M695, H695, G695⟩ := id V682
  obtain ⟨T695, h695, X695, e695, W695, s695⟩ := stJ X692 hx hZ e692 A695 (j := i2) (inb_of S695 g2) (g := (mkF m 26 #[rv a, rv aL, iv (2 : Int32)] [(.long (((own_add (own_add F i0.toNatClampNeg w0) i1.toNatClampNeg w1) i2.toNatClampNeg) ||| w2)), (.int i2), (.ref aL)])) rfl rfl (hb hby d12_26)
  have N695 := Fr.snoc X695 N682 fL
  have O696 : Ext Z.heap h695 := xw O683 W695 fL
  have V695 : Arv Z h695 aL kL .long (4 : Int32) (own_b (own_add (own_add (own_add F i0.toNatClampNeg w0) i1.toNatClampNeg w1) i2.toNatClampNeg w2)) (.long 0) := by rw [← own_bset _ (own_lt4 g2)]; exact Arv.set A695 q695 S695 M695 H695 G695 rfl W695 _ rfl (own_lt4 g2)
  refine go s695 ?_
  show Ends p e below s _ _ _ T695 (mkF m 27 #[rv a, rv aL, iv (2 : Int32)] [])
  refine go (fun _ => XT.iincV X695.here hx rfl (1 : Int32) (hb hby d12_27) (by decide) rfl (l' := #[rv a, rv aL, iv (3 : Int32)]) rfl) ?_
  refine go (fun _ => XS.goto X695.here hx rfl (pc0 := 30) (pc' := 2) rfl (hb hby d12_30) (by decide) (by decide)) ?_
  refine go (fun _ => XS.iloadN X695.here hx rfl (hb hby d12_2) rfl) ?_
  refine go (fun _ => XS.aloadN X695.here hx rfl (hb hby d12_3) rfl rfl) ?_
  show Ends p e below s _ _ _ T695 (mkF m 4 #[rv a, rv aL, iv (3 : Int32)] [(.ref a), (.int (3 : Int32))])
  have F697 := (Fld.other W695 F684 (Or.inl m0))
  obtain ⟨T698, X698, e698, s698⟩ := getF X695 hx hZ hown (host := "") (Or.inl (hwi hw 28 rfl)) Via.refl e695 F697 (g := (mkF m 4 #[rv a, rv aL, iv (3 : Int32)] [(.ref a), (.int (3 : Int32))])) rfl rfl (hb hby d12_4)
  refine go s698 ?_
  show Ends p e below s _ _ _ T698 (mkF m 7 #[rv a, rv aL, iv (3 : Int32)] [(.int (3 : Int32)), (.int (3 : Int32))])
  refine go (fun _ => XS.icmpYes X698.here hx rfl (pc0 := 7) (pc' := 33) rfl (hb hby d12_7) rfl (XT.ii_ge_t ((by decide) : ¬ ((3 : Int32) < (3 : Int32)))) (by decide) (by decide)) ?_
  show Ends p e below s _ _ _ T698 (mkF m 33 #[rv a, rv aL, iv (3 : Int32)] [])
  have K699 : Keep h0 h695 [aL] := (Keep.wr (Keep.wr (Keep.wr (Keep.refl _ _) W669 (Or.inl (List.mem_of_getElem? (i := 0) rfl))) W682 (Or.inl (List.mem_of_getElem? (i := 0) rfl))) W695 (Or.inl (List.mem_of_getElem? (i := 0) rfl)))
  exact endV X698 hx hlk hret (hb hby d12_33) e698 ⟨rfl, N695, K699, V695⟩ (by decide) (by decide)
set_option maxRecDepth 65536 in
set_option maxHeartbeats 40000000 in
theorem rm_exp0 {l : Launch} {Z : State} {a0 : Array Value} (hw : ∀ d ∈ tables_1, d.before a0 Z = true) (w : Int32) (v : Int64) (x y z : Int32) (h0 : Heap)  :
    Con l (⟨"com/example/libtbox/libtbox/core/SparseBitSetAddToPinLaw", "expect", "(IJIIII)J"⟩ : MethodName) method_3_code 9 (some .long) ({ frames := 0, cells := 0, slots := 0, locals := 0 } : Room) Z #[(.int w), (.long v), (.int (0 : Int32)), (.int x), (.int y), (.int z)] h0 (fun r h L => r = some (.long v) ∧ Fr Z.heap.size L ∧ h0 = h) := by
  refine Con.of (plainFor_of_name pn_10) (Ls := #[iv w, .val (.long v), .second, iv (0 : Int32), iv x, iv y, iv z, .unset, .unset]) (fun m => efOf rfl) ?_
  intro p e s m below meth c T0 X0 hx hZ hby hml hown hnm hret hlk e0
  refine go (fun _ => XT.lloadN X0.here hx rfl (hb hby d13_0) rfl) ?_
  refine go (fun _ => XT.lstore X0.here hx rfl (hb hby d13_1) rfl (l' := #[iv w, .val (.long v), .second, iv (0 : Int32), iv x, iv y, iv z, .val (.long v), .second]) rfl) ?_
  refine go (fun _ => XS.iloadN X0.here hx rfl (hb hby d13_3) rfl) ?_
  refine go (fun _ => XT.iconstV X0.here hx rfl (1 : Int32) (hb hby d13_4) (by decide)) ?_
  show Ends p e below s _ _ _ T0 (mkF m 5 #[iv w, .val (.long v), .second, iv (0 : Int32), iv x, iv y, iv z, .val (.long v), .second] [(.int (1 : Int32)), (.int (0 : Int32))])
  refine go (fun _ => XS.icmpYes X0.here hx rfl (pc0 := 5) (pc' := 26) rfl (hb hby d13_5) rfl (XT.ii_lt_t ((by decide) : (0 : Int32) < (1 : Int32))) (by decide) (by decide)) ?_
  show Ends p e below s _ _ _ T0 (mkF m 26 #[iv w, .val (.long v), .second, iv (0 : Int32), iv x, iv y, iv z, .val (.long v), .second] [])
  refine go (fun _ => XS.iloadN X0.here hx rfl (hb hby d13_26) rfl) ?_
  refine go (fun _ => XT.iconstV X0.here hx rfl (2 : Int32) (hb hby d13_27) (by decide)) ?_
  show Ends p e below s _ _ _ T0 (mkF m 28 #[iv w, .val (.long v), .second, iv (0 : Int32), iv x, iv y, iv z, .val (.long v), .second] [(.int (2 : Int32)), (.int (0 : Int32))])
  refine go (fun _ => XS.icmpYes X0.here hx rfl (pc0 := 28) (pc' := 49) rfl (hb hby d13_28) rfl (XT.ii_lt_t ((by decide) : (0 : Int32) < (2 : Int32))) (by decide) (by decide)) ?_
  show Ends p e below s _ _ _ T0 (mkF m 49 #[iv w, .val (.long v), .second, iv (0 : Int32), iv x, iv y, iv z, .val (.long v), .second] [])
  refine go (fun _ => XS.iloadN X0.here hx rfl (hb hby d13_49) rfl) ?_
  refine go (fun _ => XT.iconstV X0.here hx rfl (3 : Int32) (hb hby d13_50) (by decide)) ?_
  show Ends p e below s _ _ _ T0 (mkF m 51 #[iv w, .val (.long v), .second, iv (0 : Int32), iv x, iv y, iv z, .val (.long v), .second] [(.int (3 : Int32)), (.int (0 : Int32))])
  refine go (fun _ => XS.icmpYes X0.here hx rfl (pc0 := 51) (pc' := 72) rfl (hb hby d13_51) rfl (XT.ii_lt_t ((by decide) : (0 : Int32) < (3 : Int32))) (by decide) (by decide)) ?_
  show Ends p e below s _ _ _ T0 (mkF m 72 #[iv w, .val (.long v), .second, iv (0 : Int32), iv x, iv y, iv z, .val (.long v), .second] [])
  refine go (fun _ => XT.lload X0.here hx rfl (hb hby d13_72) rfl) ?_
  show Ends p e below s _ _ _ T0 (mkF m 74 #[iv w, .val (.long v), .second, iv (0 : Int32), iv x, iv y, iv z, .val (.long v), .second] [(.long v)])
  exact endJ X0 hx hlk hret (hb hby d13_74) e0 ⟨by simp [own_acc], (Fr.nil _), rfl⟩ (by decide) (by decide)
set_option maxRecDepth 65536 in
set_option maxHeartbeats 40000000 in
theorem rm_exp1 {l : Launch} {Z : State} {a0 : Array Value} (hw : ∀ d ∈ tables_1, d.before a0 Z = true) (w : Int32) (v : Int64) (x y z : Int32) (h0 : Heap)  :
    Con l (⟨"com/example/libtbox/libtbox/core/SparseBitSetAddToPinLaw", "expect", "(IJIIII)J"⟩ : MethodName) method_3_code 9 (some .long) ({ frames := 0, cells := 0, slots := 0, locals := 0 } : Room) Z #[(.int w), (.long v), (.int (1 : Int32)), (.int x), (.int y), (.int z)] h0 (fun r h L => r = some (.long (own_acc (XT.ushr x (6 : Int32)) w v ((1 : Int64) <<< (x.toInt64 &&& 63)))) ∧ Fr Z.heap.size L ∧ h0 = h) := by
  refine Con.of (plainFor_of_name pn_10) (Ls := #[iv w, .val (.long v), .second, iv (1 : Int32), iv x, iv y, iv z, .unset, .unset]) (fun m => efOf rfl) ?_
  intro p e s m below meth c T0 X0 hx hZ hby hml hown hnm hret hlk e0
  refine go (fun _ => XT.lloadN X0.here hx rfl (hb hby d13_0) rfl) ?_
  refine go (fun _ => XT.lstore X0.here hx rfl (hb hby d13_1) rfl (l' := #[iv w, .val (.long v), .second, iv (1 : Int32), iv x, iv y, iv z, .val (.long v), .second]) rfl) ?_
  refine go (fun _ => XS.iloadN X0.here hx rfl (hb hby d13_3) rfl) ?_
  refine go (fun _ => XT.iconstV X0.here hx rfl (1 : Int32) (hb hby d13_4) (by decide)) ?_
  show Ends p e below s _ _ _ T0 (mkF m 5 #[iv w, .val (.long v), .second, iv (1 : Int32), iv x, iv y, iv z, .val (.long v), .second] [(.int (1 : Int32)), (.int (1 : Int32))])
  refine go (fun _ => XS.icmpNo X0.here hx rfl (hb hby d13_5) rfl (XT.ii_lt_f ((by decide) : ¬ ((1 : Int32) < (1 : Int32))))) ?_
  show Ends p e below s _ _ _ T0 (mkF m 8 #[iv w, .val (.long v), .second, iv (1 : Int32), iv x, iv y, iv z, .val (.long v), .second] [])
  refine go (fun _ => XS.iload X0.here hx rfl (hb hby d13_8) rfl) ?_
  refine go (fun _ => XT.bipushV X0.here hx rfl (6 : Int32) (hb hby d13_10) (by decide)) ?_
  refine go (fun _ => XT.iushr X0.here hx rfl (hb hby d13_12) rfl) ?_
  refine go (fun _ => XS.iloadN X0.here hx rfl (hb hby d13_13) rfl) ?_
  show Ends p e below s _ _ _ T0 (mkF m 14 #[iv w, .val (.long v), .second, iv (1 : Int32), iv x, iv y, iv z, .val (.long v), .second] [(.int w), (.int (XT.ushr x (6 : Int32)))])
  by_cases c14_700 : (XT.ushr x (6 : Int32)) = w
  · refine go (fun _ => XS.icmpNo X0.here hx rfl (hb hby d13_14) rfl (XT.ii_ne_f c14_700)) ?_
    show Ends p e below s _ _ _ T0 (mkF m 17 #[iv w, .val (.long v), .second, iv (1 : Int32), iv x, iv y, iv z, .val (.long v), .second] [])
    refine go (fun _ => XT.lload X0.here hx rfl (hb hby d13_17) rfl) ?_
    refine go (fun _ => XT.lconstV X0.here hx rfl (1 : Int64) (hb hby d13_19) (by decide)) ?_
    refine go (fun _ => XS.iload X0.here hx rfl (hb hby d13_20) rfl) ?_
    refine go (fun _ => XT.lshl X0.here hx rfl (hb hby d13_22) rfl) ?_
    refine go (fun _ => XT.lor X0.here hx rfl (hb hby d13_23) rfl) ?_
    refine go (fun _ => XT.lstore X0.here hx rfl (hb hby d13_24) rfl (l' := #[iv w, .val (.long v), .second, iv (1 : Int32), iv x, iv y, iv z, .val (.long (v ||| ((1 : Int64) <<< (x.toInt64 &&& 63)))), .second]) rfl) ?_
    show Ends p e below s _ _ _ T0 (mkF m 26 #[iv w, .val (.long v), .second, iv (1 : Int32), iv x, iv y, iv z, .val (.long (v ||| ((1 : Int64) <<< (x.toInt64 &&& 63)))), .second] [])
    refine go (fun _ => XS.iloadN X0.here hx rfl (hb hby d13_26) rfl) ?_
    refine go (fun _ => XT.iconstV X0.here hx rfl (2 : Int32) (hb hby d13_27) (by decide)) ?_
    show Ends p e below s _ _ _ T0 (mkF m 28 #[iv w, .val (.long v), .second, iv (1 : Int32), iv x, iv y, iv z, .val (.long (v ||| ((1 : Int64) <<< (x.toInt64 &&& 63)))), .second] [(.int (2 : Int32)), (.int (1 : Int32))])
    refine go (fun _ => XS.icmpYes X0.here hx rfl (pc0 := 28) (pc' := 49) rfl (hb hby d13_28) rfl (XT.ii_lt_t ((by decide) : (1 : Int32) < (2 : Int32))) (by decide) (by decide)) ?_
    show Ends p e below s _ _ _ T0 (mkF m 49 #[iv w, .val (.long v), .second, iv (1 : Int32), iv x, iv y, iv z, .val (.long (v ||| ((1 : Int64) <<< (x.toInt64 &&& 63)))), .second] [])
    refine go (fun _ => XS.iloadN X0.here hx rfl (hb hby d13_49) rfl) ?_
    refine go (fun _ => XT.iconstV X0.here hx rfl (3 : Int32) (hb hby d13_50) (by decide)) ?_
    show Ends p e below s _ _ _ T0 (mkF m 51 #[iv w, .val (.long v), .second, iv (1 : Int32), iv x, iv y, iv z, .val (.long (v ||| ((1 : Int64) <<< (x.toInt64 &&& 63)))), .second] [(.int (3 : Int32)), (.int (1 : Int32))])
    refine go (fun _ => XS.icmpYes X0.here hx rfl (pc0 := 51) (pc' := 72) rfl (hb hby d13_51) rfl (XT.ii_lt_t ((by decide) : (1 : Int32) < (3 : Int32))) (by decide) (by decide)) ?_
    show Ends p e below s _ _ _ T0 (mkF m 72 #[iv w, .val (.long v), .second, iv (1 : Int32), iv x, iv y, iv z, .val (.long (v ||| ((1 : Int64) <<< (x.toInt64 &&& 63)))), .second] [])
    refine go (fun _ => XT.lload X0.here hx rfl (hb hby d13_72) rfl) ?_
    show Ends p e below s _ _ _ T0 (mkF m 74 #[iv w, .val (.long v), .second, iv (1 : Int32), iv x, iv y, iv z, .val (.long (v ||| ((1 : Int64) <<< (x.toInt64 &&& 63)))), .second] [(.long (v ||| ((1 : Int64) <<< (x.toInt64 &&& 63))))])
    exact endJ X0 hx hlk hret (hb hby d13_74) e0 ⟨by simp [own_acc, c14_700], (Fr.nil _), rfl⟩ (by decide) (by decide)
  · refine go (fun _ => XS.icmpYes X0.here hx rfl (pc0 := 14) (pc' := 26) rfl (hb hby d13_14) rfl (XT.ii_ne_t c14_700) (by decide) (by decide)) ?_
    show Ends p e below s _ _ _ T0 (mkF m 26 #[iv w, .val (.long v), .second, iv (1 : Int32), iv x, iv y, iv z, .val (.long v), .second] [])
    refine go (fun _ => XS.iloadN X0.here hx rfl (hb hby d13_26) rfl) ?_
    refine go (fun _ => XT.iconstV X0.here hx rfl (2 : Int32) (hb hby d13_27) (by decide)) ?_
    show Ends p e below s _ _ _ T0 (mkF m 28 #[iv w, .val (.long v), .second, iv (1 : Int32), iv x, iv y, iv z, .val (.long v), .second] [(.int (2 : Int32)), (.int (1 : Int32))])
    refine go (fun _ => XS.icmpYes X0.here hx rfl (pc0 := 28) (pc' := 49) rfl (hb hby d13_28) rfl (XT.ii_lt_t ((by decide) : (1 : Int32) < (2 : Int32))) (by decide) (by decide)) ?_
    show Ends p e below s _ _ _ T0 (mkF m 49 #[iv w, .val (.long v), .second, iv (1 : Int32), iv x, iv y, iv z, .val (.long v), .second] [])
    refine go (fun _ => XS.iloadN X0.here hx rfl (hb hby d13_49) rfl) ?_
    refine go (fun _ => XT.iconstV X0.here hx rfl (3 : Int32) (hb hby d13_50) (by decide)) ?_
    show Ends p e below s _ _ _ T0 (mkF m 51 #[iv w, .val (.long v), .second, iv (1 : Int32), iv x, iv y, iv z, .val (.long v), .second] [(.int (3 : Int32)), (.int (1 : Int32))])
    refine go (fun _ => XS.icmpYes X0.here hx rfl (pc0 := 51) (pc' := 72) rfl (hb hby d13_51) rfl (XT.ii_lt_t ((by decide) : (1 : Int32) < (3 : Int32))) (by decide) (by decide)) ?_
    show Ends p e below s _ _ _ T0 (mkF m 72 #[iv w, .val (.long v), .second, iv (1 : Int32), iv x, iv y, iv z, .val (.long v), .second] [])
    refine go (fun _ => XT.lload X0.here hx rfl (hb hby d13_72) rfl) ?_
    show Ends p e below s _ _ _ T0 (mkF m 74 #[iv w, .val (.long v), .second, iv (1 : Int32), iv x, iv y, iv z, .val (.long v), .second] [(.long v)])
    exact endJ X0 hx hlk hret (hb hby d13_74) e0 ⟨by simp [own_acc, c14_700], (Fr.nil _), rfl⟩ (by decide) (by decide)
set_option maxRecDepth 65536 in
set_option maxHeartbeats 40000000 in
theorem rm_exp2 {l : Launch} {Z : State} {a0 : Array Value} (hw : ∀ d ∈ tables_1, d.before a0 Z = true) (w : Int32) (v : Int64) (x y z : Int32) (h0 : Heap)  :
    Con l (⟨"com/example/libtbox/libtbox/core/SparseBitSetAddToPinLaw", "expect", "(IJIIII)J"⟩ : MethodName) method_3_code 9 (some .long) ({ frames := 0, cells := 0, slots := 0, locals := 0 } : Room) Z #[(.int w), (.long v), (.int (2 : Int32)), (.int x), (.int y), (.int z)] h0 (fun r h L => r = some (.long (own_acc (XT.ushr y (6 : Int32)) w (own_acc (XT.ushr x (6 : Int32)) w v ((1 : Int64) <<< (x.toInt64 &&& 63))) ((1 : Int64) <<< (y.toInt64 &&& 63)))) ∧ Fr Z.heap.size L ∧ h0 = h) := by
  refine Con.of (plainFor_of_name pn_10) (Ls := #[iv w, .val (.long v), .second, iv (2 : Int32), iv x, iv y, iv z, .unset, .unset]) (fun m => efOf rfl) ?_
  intro p e s m below meth c T0 X0 hx hZ hby hml hown hnm hret hlk e0
  refine go (fun _ => XT.lloadN X0.here hx rfl (hb hby d13_0) rfl) ?_
  refine go (fun _ => XT.lstore X0.here hx rfl (hb hby d13_1) rfl (l' := #[iv w, .val (.long v), .second, iv (2 : Int32), iv x, iv y, iv z, .val (.long v), .second]) rfl) ?_
  refine go (fun _ => XS.iloadN X0.here hx rfl (hb hby d13_3) rfl) ?_
  refine go (fun _ => XT.iconstV X0.here hx rfl (1 : Int32) (hb hby d13_4) (by decide)) ?_
  show Ends p e below s _ _ _ T0 (mkF m 5 #[iv w, .val (.long v), .second, iv (2 : Int32), iv x, iv y, iv z, .val (.long v), .second] [(.int (1 : Int32)), (.int (2 : Int32))])
  refine go (fun _ => XS.icmpNo X0.here hx rfl (hb hby d13_5) rfl (XT.ii_lt_f ((by decide) : ¬ ((2 : Int32) < (1 : Int32))))) ?_
  show Ends p e below s _ _ _ T0 (mkF m 8 #[iv w, .val (.long v), .second, iv (2 : Int32), iv x, iv y, iv z, .val (.long v), .second] [])
  refine go (fun _ => XS.iload X0.here hx rfl (hb hby d13_8) rfl) ?_
  refine go (fun _ => XT.bipushV X0.here hx rfl (6 : Int32) (hb hby d13_10) (by decide)) ?_
  refine go (fun _ => XT.iushr X0.here hx rfl (hb hby d13_12) rfl) ?_
  refine go (fun _ => XS.iloadN X0.here hx rfl (hb hby d13_13) rfl) ?_
  show Ends p e below s _ _ _ T0 (mkF m 14 #[iv w, .val (.long v), .second, iv (2 : Int32), iv x, iv y, iv z, .val (.long v), .second] [(.int w), (.int (XT.ushr x (6 : Int32)))])
  by_cases c14_701 : (XT.ushr x (6 : Int32)) = w
  · refine go (fun _ => XS.icmpNo X0.here hx rfl (hb hby d13_14) rfl (XT.ii_ne_f c14_701)) ?_
    show Ends p e below s _ _ _ T0 (mkF m 17 #[iv w, .val (.long v), .second, iv (2 : Int32), iv x, iv y, iv z, .val (.long v), .second] [])
    refine go (fun _ => XT.lload X0.here hx rfl (hb hby d13_17) rfl) ?_
    refine go (fun _ => XT.lconstV X0.here hx rfl (1 : Int64) (hb hby d13_19) (by decide)) ?_
    refine go (fun _ => XS.iload X0.here hx rfl (hb hby d13_20) rfl) ?_
    refine go (fun _ => XT.lshl X0.here hx rfl (hb hby d13_22) rfl) ?_
    refine go (fun _ => XT.lor X0.here hx rfl (hb hby d13_23) rfl) ?_
    refine go (fun _ => XT.lstore X0.here hx rfl (hb hby d13_24) rfl (l' := #[iv w, .val (.long v), .second, iv (2 : Int32), iv x, iv y, iv z, .val (.long (v ||| ((1 : Int64) <<< (x.toInt64 &&& 63)))), .second]) rfl) ?_
    show Ends p e below s _ _ _ T0 (mkF m 26 #[iv w, .val (.long v), .second, iv (2 : Int32), iv x, iv y, iv z, .val (.long (v ||| ((1 : Int64) <<< (x.toInt64 &&& 63)))), .second] [])
    refine go (fun _ => XS.iloadN X0.here hx rfl (hb hby d13_26) rfl) ?_
    refine go (fun _ => XT.iconstV X0.here hx rfl (2 : Int32) (hb hby d13_27) (by decide)) ?_
    show Ends p e below s _ _ _ T0 (mkF m 28 #[iv w, .val (.long v), .second, iv (2 : Int32), iv x, iv y, iv z, .val (.long (v ||| ((1 : Int64) <<< (x.toInt64 &&& 63)))), .second] [(.int (2 : Int32)), (.int (2 : Int32))])
    refine go (fun _ => XS.icmpNo X0.here hx rfl (hb hby d13_28) rfl (XT.ii_lt_f ((by decide) : ¬ ((2 : Int32) < (2 : Int32))))) ?_
    show Ends p e below s _ _ _ T0 (mkF m 31 #[iv w, .val (.long v), .second, iv (2 : Int32), iv x, iv y, iv z, .val (.long (v ||| ((1 : Int64) <<< (x.toInt64 &&& 63)))), .second] [])
    refine go (fun _ => XS.iload X0.here hx rfl (hb hby d13_31) rfl) ?_
    refine go (fun _ => XT.bipushV X0.here hx rfl (6 : Int32) (hb hby d13_33) (by decide)) ?_
    refine go (fun _ => XT.iushr X0.here hx rfl (hb hby d13_35) rfl) ?_
    refine go (fun _ => XS.iloadN X0.here hx rfl (hb hby d13_36) rfl) ?_
    show Ends p e below s _ _ _ T0 (mkF m 37 #[iv w, .val (.long v), .second, iv (2 : Int32), iv x, iv y, iv z, .val (.long (v ||| ((1 : Int64) <<< (x.toInt64 &&& 63)))), .second] [(.int w), (.int (XT.ushr y (6 : Int32)))])
    by_cases c37_702 : (XT.ushr y (6 : Int32)) = w
    · refine go (fun _ => XS.icmpNo X0.here hx rfl (hb hby d13_37) rfl (XT.ii_ne_f c37_702)) ?_
      show Ends p e below s _ _ _ T0 (mkF m 40 #[iv w, .val (.long v), .second, iv (2 : Int32), iv x, iv y, iv z, .val (.long (v ||| ((1 : Int64) <<< (x.toInt64 &&& 63)))), .second] [])
      refine go (fun _ => XT.lload X0.here hx rfl (hb hby d13_40) rfl) ?_
      refine go (fun _ => XT.lconstV X0.here hx rfl (1 : Int64) (hb hby d13_42) (by decide)) ?_
      refine go (fun _ => XS.iload X0.here hx rfl (hb hby d13_43) rfl) ?_
      refine go (fun _ => XT.lshl X0.here hx rfl (hb hby d13_45) rfl) ?_
      refine go (fun _ => XT.lor X0.here hx rfl (hb hby d13_46) rfl) ?_
      refine go (fun _ => XT.lstore X0.here hx rfl (hb hby d13_47) rfl (l' := #[iv w, .val (.long v), .second, iv (2 : Int32), iv x, iv y, iv z, .val (.long ((v ||| ((1 : Int64) <<< (x.toInt64 &&& 63))) ||| ((1 : Int64) <<< (y.toInt64 &&& 63)))), .second]) rfl) ?_
      show Ends p e below s _ _ _ T0 (mkF m 49 #[iv w, .val (.long v), .second, iv (2 : Int32), iv x, iv y, iv z, .val (.long ((v ||| ((1 : Int64) <<< (x.toInt64 &&& 63))) ||| ((1 : Int64) <<< (y.toInt64 &&& 63)))), .second] [])
      refine go (fun _ => XS.iloadN X0.here hx rfl (hb hby d13_49) rfl) ?_
      refine go (fun _ => XT.iconstV X0.here hx rfl (3 : Int32) (hb hby d13_50) (by decide)) ?_
      show Ends p e below s _ _ _ T0 (mkF m 51 #[iv w, .val (.long v), .second, iv (2 : Int32), iv x, iv y, iv z, .val (.long ((v ||| ((1 : Int64) <<< (x.toInt64 &&& 63))) ||| ((1 : Int64) <<< (y.toInt64 &&& 63)))), .second] [(.int (3 : Int32)), (.int (2 : Int32))])
      refine go (fun _ => XS.icmpYes X0.here hx rfl (pc0 := 51) (pc' := 72) rfl (hb hby d13_51) rfl (XT.ii_lt_t ((by decide) : (2 : Int32) < (3 : Int32))) (by decide) (by decide)) ?_
      show Ends p e below s _ _ _ T0 (mkF m 72 #[iv w, .val (.long v), .second, iv (2 : Int32), iv x, iv y, iv z, .val (.long ((v ||| ((1 : Int64) <<< (x.toInt64 &&& 63))) ||| ((1 : Int64) <<< (y.toInt64 &&& 63)))), .second] [])
      refine go (fun _ => XT.lload X0.here hx rfl (hb hby d13_72) rfl) ?_
      show Ends p e below s _ _ _ T0 (mkF m 74 #[iv w, .val (.long v), .second, iv (2 : Int32), iv x, iv y, iv z, .val (.long ((v ||| ((1 : Int64) <<< (x.toInt64 &&& 63))) ||| ((1 : Int64) <<< (y.toInt64 &&& 63)))), .second] [(.long ((v ||| ((1 : Int64) <<< (x.toInt64 &&& 63))) ||| ((1 : Int64) <<< (y.toInt64 &&& 63))))])
      exact endJ X0 hx hlk hret (hb hby d13_74) e0 ⟨by simp [own_acc, c14_701, c37_702], (Fr.nil _), rfl⟩ (by decide) (by decide)
    · refine go (fun _ => XS.icmpYes X0.here hx rfl (pc0 := 37) (pc' := 49) rfl (hb hby d13_37) rfl (XT.ii_ne_t c37_702) (by decide) (by decide)) ?_
      show Ends p e below s _ _ _ T0 (mkF m 49 #[iv w, .val (.long v), .second, iv (2 : Int32), iv x, iv y, iv z, .val (.long (v ||| ((1 : Int64) <<< (x.toInt64 &&& 63)))), .second] [])
      refine go (fun _ => XS.iloadN X0.here hx rfl (hb hby d13_49) rfl) ?_
      refine go (fun _ => XT.iconstV X0.here hx rfl (3 : Int32) (hb hby d13_50) (by decide)) ?_
      show Ends p e below s _ _ _ T0 (mkF m 51 #[iv w, .val (.long v), .second, iv (2 : Int32), iv x, iv y, iv z, .val (.long (v ||| ((1 : Int64) <<< (x.toInt64 &&& 63)))), .second] [(.int (3 : Int32)), (.int (2 : Int32))])
      refine go (fun _ => XS.icmpYes X0.here hx rfl (pc0 := 51) (pc' := 72) rfl (hb hby d13_51) rfl (XT.ii_lt_t ((by decide) : (2 : Int32) < (3 : Int32))) (by decide) (by decide)) ?_
      show Ends p e below s _ _ _ T0 (mkF m 72 #[iv w, .val (.long v), .second, iv (2 : Int32), iv x, iv y, iv z, .val (.long (v ||| ((1 : Int64) <<< (x.toInt64 &&& 63)))), .second] [])
      refine go (fun _ => XT.lload X0.here hx rfl (hb hby d13_72) rfl) ?_
      show Ends p e below s _ _ _ T0 (mkF m 74 #[iv w, .val (.long v), .second, iv (2 : Int32), iv x, iv y, iv z, .val (.long (v ||| ((1 : Int64) <<< (x.toInt64 &&& 63)))), .second] [(.long (v ||| ((1 : Int64) <<< (x.toInt64 &&& 63))))])
      exact endJ X0 hx hlk hret (hb hby d13_74) e0 ⟨by simp [own_acc, c14_701, c37_702], (Fr.nil _), rfl⟩ (by decide) (by decide)
  · refine go (fun _ => XS.icmpYes X0.here hx rfl (pc0 := 14) (pc' := 26) rfl (hb hby d13_14) rfl (XT.ii_ne_t c14_701) (by decide) (by decide)) ?_
    show Ends p e below s _ _ _ T0 (mkF m 26 #[iv w, .val (.long v), .second, iv (2 : Int32), iv x, iv y, iv z, .val (.long v), .second] [])
    refine go (fun _ => XS.iloadN X0.here hx rfl (hb hby d13_26) rfl) ?_
    refine go (fun _ => XT.iconstV X0.here hx rfl (2 : Int32) (hb hby d13_27) (by decide)) ?_
    show Ends p e below s _ _ _ T0 (mkF m 28 #[iv w, .val (.long v), .second, iv (2 : Int32), iv x, iv y, iv z, .val (.long v), .second] [(.int (2 : Int32)), (.int (2 : Int32))])
    refine go (fun _ => XS.icmpNo X0.here hx rfl (hb hby d13_28) rfl (XT.ii_lt_f ((by decide) : ¬ ((2 : Int32) < (2 : Int32))))) ?_
    show Ends p e below s _ _ _ T0 (mkF m 31 #[iv w, .val (.long v), .second, iv (2 : Int32), iv x, iv y, iv z, .val (.long v), .second] [])
    refine go (fun _ => XS.iload X0.here hx rfl (hb hby d13_31) rfl) ?_
    refine go (fun _ => XT.bipushV X0.here hx rfl (6 : Int32) (hb hby d13_33) (by decide)) ?_
    refine go (fun _ => XT.iushr X0.here hx rfl (hb hby d13_35) rfl) ?_
    refine go (fun _ => XS.iloadN X0.here hx rfl (hb hby d13_36) rfl) ?_
    show Ends p e below s _ _ _ T0 (mkF m 37 #[iv w, .val (.long v), .second, iv (2 : Int32), iv x, iv y, iv z, .val (.long v), .second] [(.int w), (.int (XT.ushr y (6 : Int32)))])
    by_cases c37_703 : (XT.ushr y (6 : Int32)) = w
    · refine go (fun _ => XS.icmpNo X0.here hx rfl (hb hby d13_37) rfl (XT.ii_ne_f c37_703)) ?_
      show Ends p e below s _ _ _ T0 (mkF m 40 #[iv w, .val (.long v), .second, iv (2 : Int32), iv x, iv y, iv z, .val (.long v), .second] [])
      refine go (fun _ => XT.lload X0.here hx rfl (hb hby d13_40) rfl) ?_
      refine go (fun _ => XT.lconstV X0.here hx rfl (1 : Int64) (hb hby d13_42) (by decide)) ?_
      refine go (fun _ => XS.iload X0.here hx rfl (hb hby d13_43) rfl) ?_
      refine go (fun _ => XT.lshl X0.here hx rfl (hb hby d13_45) rfl) ?_
      refine go (fun _ => XT.lor X0.here hx rfl (hb hby d13_46) rfl) ?_
      refine go (fun _ => XT.lstore X0.here hx rfl (hb hby d13_47) rfl (l' := #[iv w, .val (.long v), .second, iv (2 : Int32), iv x, iv y, iv z, .val (.long (v ||| ((1 : Int64) <<< (y.toInt64 &&& 63)))), .second]) rfl) ?_
      show Ends p e below s _ _ _ T0 (mkF m 49 #[iv w, .val (.long v), .second, iv (2 : Int32), iv x, iv y, iv z, .val (.long (v ||| ((1 : Int64) <<< (y.toInt64 &&& 63)))), .second] [])
      refine go (fun _ => XS.iloadN X0.here hx rfl (hb hby d13_49) rfl) ?_
      refine go (fun _ => XT.iconstV X0.here hx rfl (3 : Int32) (hb hby d13_50) (by decide)) ?_
      show Ends p e below s _ _ _ T0 (mkF m 51 #[iv w, .val (.long v), .second, iv (2 : Int32), iv x, iv y, iv z, .val (.long (v ||| ((1 : Int64) <<< (y.toInt64 &&& 63)))), .second] [(.int (3 : Int32)), (.int (2 : Int32))])
      refine go (fun _ => XS.icmpYes X0.here hx rfl (pc0 := 51) (pc' := 72) rfl (hb hby d13_51) rfl (XT.ii_lt_t ((by decide) : (2 : Int32) < (3 : Int32))) (by decide) (by decide)) ?_
      show Ends p e below s _ _ _ T0 (mkF m 72 #[iv w, .val (.long v), .second, iv (2 : Int32), iv x, iv y, iv z, .val (.long (v ||| ((1 : Int64) <<< (y.toInt64 &&& 63)))), .second] [])
      refine go (fun _ => XT.lload X0.here hx rfl (hb hby d13_72) rfl) ?_
      show Ends p e below s _ _ _ T0 (mkF m 74 #[iv w, .val (.long v), .second, iv (2 : Int32), iv x, iv y, iv z, .val (.long (v ||| ((1 : Int64) <<< (y.toInt64 &&& 63)))), .second] [(.long (v ||| ((1 : Int64) <<< (y.toInt64 &&& 63))))])
      exact endJ X0 hx hlk hret (hb hby d13_74) e0 ⟨by simp [own_acc, c14_701, c37_703], (Fr.nil _), rfl⟩ (by decide) (by decide)
    · refine go (fun _ => XS.icmpYes X0.here hx rfl (pc0 := 37) (pc' := 49) rfl (hb hby d13_37) rfl (XT.ii_ne_t c37_703) (by decide) (by decide)) ?_
      show Ends p e below s _ _ _ T0 (mkF m 49 #[iv w, .val (.long v), .second, iv (2 : Int32), iv x, iv y, iv z, .val (.long v), .second] [])
      refine go (fun _ => XS.iloadN X0.here hx rfl (hb hby d13_49) rfl) ?_
      refine go (fun _ => XT.iconstV X0.here hx rfl (3 : Int32) (hb hby d13_50) (by decide)) ?_
      show Ends p e below s _ _ _ T0 (mkF m 51 #[iv w, .val (.long v), .second, iv (2 : Int32), iv x, iv y, iv z, .val (.long v), .second] [(.int (3 : Int32)), (.int (2 : Int32))])
      refine go (fun _ => XS.icmpYes X0.here hx rfl (pc0 := 51) (pc' := 72) rfl (hb hby d13_51) rfl (XT.ii_lt_t ((by decide) : (2 : Int32) < (3 : Int32))) (by decide) (by decide)) ?_
      show Ends p e below s _ _ _ T0 (mkF m 72 #[iv w, .val (.long v), .second, iv (2 : Int32), iv x, iv y, iv z, .val (.long v), .second] [])
      refine go (fun _ => XT.lload X0.here hx rfl (hb hby d13_72) rfl) ?_
      show Ends p e below s _ _ _ T0 (mkF m 74 #[iv w, .val (.long v), .second, iv (2 : Int32), iv x, iv y, iv z, .val (.long v), .second] [(.long v)])
      exact endJ X0 hx hlk hret (hb hby d13_74) e0 ⟨by simp [own_acc, c14_701, c37_703], (Fr.nil _), rfl⟩ (by decide) (by decide)
set_option maxRecDepth 65536 in
set_option maxHeartbeats 40000000 in
theorem rm_exp3 {l : Launch} {Z : State} {a0 : Array Value} (hw : ∀ d ∈ tables_1, d.before a0 Z = true) (w : Int32) (v : Int64) (x y z : Int32) (h0 : Heap)  :
    Con l (⟨"com/example/libtbox/libtbox/core/SparseBitSetAddToPinLaw", "expect", "(IJIIII)J"⟩ : MethodName) method_3_code 9 (some .long) ({ frames := 0, cells := 0, slots := 0, locals := 0 } : Room) Z #[(.int w), (.long v), (.int (3 : Int32)), (.int x), (.int y), (.int z)] h0 (fun r h L => r = some (.long (own_acc (XT.ushr z (6 : Int32)) w (own_acc (XT.ushr y (6 : Int32)) w (own_acc (XT.ushr x (6 : Int32)) w v ((1 : Int64) <<< (x.toInt64 &&& 63))) ((1 : Int64) <<< (y.toInt64 &&& 63))) ((1 : Int64) <<< (z.toInt64 &&& 63)))) ∧ Fr Z.heap.size L ∧ h0 = h) := by
  refine Con.of (plainFor_of_name pn_10) (Ls := #[iv w, .val (.long v), .second, iv (3 : Int32), iv x, iv y, iv z, .unset, .unset]) (fun m => efOf rfl) ?_
  intro p e s m below meth c T0 X0 hx hZ hby hml hown hnm hret hlk e0
  refine go (fun _ => XT.lloadN X0.here hx rfl (hb hby d13_0) rfl) ?_
  refine go (fun _ => XT.lstore X0.here hx rfl (hb hby d13_1) rfl (l' := #[iv w, .val (.long v), .second, iv (3 : Int32), iv x, iv y, iv z, .val (.long v), .second]) rfl) ?_
  refine go (fun _ => XS.iloadN X0.here hx rfl (hb hby d13_3) rfl) ?_
  refine go (fun _ => XT.iconstV X0.here hx rfl (1 : Int32) (hb hby d13_4) (by decide)) ?_
  show Ends p e below s _ _ _ T0 (mkF m 5 #[iv w, .val (.long v), .second, iv (3 : Int32), iv x, iv y, iv z, .val (.long v), .second] [(.int (1 : Int32)), (.int (3 : Int32))])
  refine go (fun _ => XS.icmpNo X0.here hx rfl (hb hby d13_5) rfl (XT.ii_lt_f ((by decide) : ¬ ((3 : Int32) < (1 : Int32))))) ?_
  show Ends p e below s _ _ _ T0 (mkF m 8 #[iv w, .val (.long v), .second, iv (3 : Int32), iv x, iv y, iv z, .val (.long v), .second] [])
  refine go (fun _ => XS.iload X0.here hx rfl (hb hby d13_8) rfl) ?_
  refine go (fun _ => XT.bipushV X0.here hx rfl (6 : Int32) (hb hby d13_10) (by decide)) ?_
  refine go (fun _ => XT.iushr X0.here hx rfl (hb hby d13_12) rfl) ?_
  refine go (fun _ => XS.iloadN X0.here hx rfl (hb hby d13_13) rfl) ?_
  show Ends p e below s _ _ _ T0 (mkF m 14 #[iv w, .val (.long v), .second, iv (3 : Int32), iv x, iv y, iv z, .val (.long v), .second] [(.int w), (.int (XT.ushr x (6 : Int32)))])
  by_cases c14_704 : (XT.ushr x (6 : Int32)) = w
  · refine go (fun _ => XS.icmpNo X0.here hx rfl (hb hby d13_14) rfl (XT.ii_ne_f c14_704)) ?_
    show Ends p e below s _ _ _ T0 (mkF m 17 #[iv w, .val (.long v), .second, iv (3 : Int32), iv x, iv y, iv z, .val (.long v), .second] [])
    refine go (fun _ => XT.lload X0.here hx rfl (hb hby d13_17) rfl) ?_
    refine go (fun _ => XT.lconstV X0.here hx rfl (1 : Int64) (hb hby d13_19) (by decide)) ?_
    refine go (fun _ => XS.iload X0.here hx rfl (hb hby d13_20) rfl) ?_
    refine go (fun _ => XT.lshl X0.here hx rfl (hb hby d13_22) rfl) ?_
    refine go (fun _ => XT.lor X0.here hx rfl (hb hby d13_23) rfl) ?_
    refine go (fun _ => XT.lstore X0.here hx rfl (hb hby d13_24) rfl (l' := #[iv w, .val (.long v), .second, iv (3 : Int32), iv x, iv y, iv z, .val (.long (v ||| ((1 : Int64) <<< (x.toInt64 &&& 63)))), .second]) rfl) ?_
    show Ends p e below s _ _ _ T0 (mkF m 26 #[iv w, .val (.long v), .second, iv (3 : Int32), iv x, iv y, iv z, .val (.long (v ||| ((1 : Int64) <<< (x.toInt64 &&& 63)))), .second] [])
    refine go (fun _ => XS.iloadN X0.here hx rfl (hb hby d13_26) rfl) ?_
    refine go (fun _ => XT.iconstV X0.here hx rfl (2 : Int32) (hb hby d13_27) (by decide)) ?_
    show Ends p e below s _ _ _ T0 (mkF m 28 #[iv w, .val (.long v), .second, iv (3 : Int32), iv x, iv y, iv z, .val (.long (v ||| ((1 : Int64) <<< (x.toInt64 &&& 63)))), .second] [(.int (2 : Int32)), (.int (3 : Int32))])
    refine go (fun _ => XS.icmpNo X0.here hx rfl (hb hby d13_28) rfl (XT.ii_lt_f ((by decide) : ¬ ((3 : Int32) < (2 : Int32))))) ?_
    show Ends p e below s _ _ _ T0 (mkF m 31 #[iv w, .val (.long v), .second, iv (3 : Int32), iv x, iv y, iv z, .val (.long (v ||| ((1 : Int64) <<< (x.toInt64 &&& 63)))), .second] [])
    refine go (fun _ => XS.iload X0.here hx rfl (hb hby d13_31) rfl) ?_
    refine go (fun _ => XT.bipushV X0.here hx rfl (6 : Int32) (hb hby d13_33) (by decide)) ?_
    refine go (fun _ => XT.iushr X0.here hx rfl (hb hby d13_35) rfl) ?_
    refine go (fun _ => XS.iloadN X0.here hx rfl (hb hby d13_36) rfl) ?_
    show Ends p e below s _ _ _ T0 (mkF m 37 #[iv w, .val (.long v), .second, iv (3 : Int32), iv x, iv y, iv z, .val (.long (v ||| ((1 : Int64) <<< (x.toInt64 &&& 63)))), .second] [(.int w), (.int (XT.ushr y (6 : Int32)))])
    by_cases c37_705 : (XT.ushr y (6 : Int32)) = w
    · refine go (fun _ => XS.icmpNo X0.here hx rfl (hb hby d13_37) rfl (XT.ii_ne_f c37_705)) ?_
      show Ends p e below s _ _ _ T0 (mkF m 40 #[iv w, .val (.long v), .second, iv (3 : Int32), iv x, iv y, iv z, .val (.long (v ||| ((1 : Int64) <<< (x.toInt64 &&& 63)))), .second] [])
      refine go (fun _ => XT.lload X0.here hx rfl (hb hby d13_40) rfl) ?_
      refine go (fun _ => XT.lconstV X0.here hx rfl (1 : Int64) (hb hby d13_42) (by decide)) ?_
      refine go (fun _ => XS.iload X0.here hx rfl (hb hby d13_43) rfl) ?_
      refine go (fun _ => XT.lshl X0.here hx rfl (hb hby d13_45) rfl) ?_
      refine go (fun _ => XT.lor X0.here hx rfl (hb hby d13_46) rfl) ?_
      refine go (fun _ => XT.lstore X0.here hx rfl (hb hby d13_47) rfl (l' := #[iv w, .val (.long v), .second, iv (3 : Int32), iv x, iv y, iv z, .val (.long ((v ||| ((1 : Int64) <<< (x.toInt64 &&& 63))) ||| ((1 : Int64) <<< (y.toInt64 &&& 63)))), .second]) rfl) ?_
      show Ends p e below s _ _ _ T0 (mkF m 49 #[iv w, .val (.long v), .second, iv (3 : Int32), iv x, iv y, iv z, .val (.long ((v ||| ((1 : Int64) <<< (x.toInt64 &&& 63))) ||| ((1 : Int64) <<< (y.toInt64 &&& 63)))), .second] [])
      refine go (fun _ => XS.iloadN X0.here hx rfl (hb hby d13_49) rfl) ?_
      refine go (fun _ => XT.iconstV X0.here hx rfl (3 : Int32) (hb hby d13_50) (by decide)) ?_
      show Ends p e below s _ _ _ T0 (mkF m 51 #[iv w, .val (.long v), .second, iv (3 : Int32), iv x, iv y, iv z, .val (.long ((v ||| ((1 : Int64) <<< (x.toInt64 &&& 63))) ||| ((1 : Int64) <<< (y.toInt64 &&& 63)))), .second] [(.int (3 : Int32)), (.int (3 : Int32))])
      refine go (fun _ => XS.icmpNo X0.here hx rfl (hb hby d13_51) rfl (XT.ii_lt_f ((by decide) : ¬ ((3 : Int32) < (3 : Int32))))) ?_
      show Ends p e below s _ _ _ T0 (mkF m 54 #[iv w, .val (.long v), .second, iv (3 : Int32), iv x, iv y, iv z, .val (.long ((v ||| ((1 : Int64) <<< (x.toInt64 &&& 63))) ||| ((1 : Int64) <<< (y.toInt64 &&& 63)))), .second] [])
      refine go (fun _ => XS.iload X0.here hx rfl (hb hby d13_54) rfl) ?_
      refine go (fun _ => XT.bipushV X0.here hx rfl (6 : Int32) (hb hby d13_56) (by decide)) ?_
      refine go (fun _ => XT.iushr X0.here hx rfl (hb hby d13_58) rfl) ?_
      refine go (fun _ => XS.iloadN X0.here hx rfl (hb hby d13_59) rfl) ?_
      show Ends p e below s _ _ _ T0 (mkF m 60 #[iv w, .val (.long v), .second, iv (3 : Int32), iv x, iv y, iv z, .val (.long ((v ||| ((1 : Int64) <<< (x.toInt64 &&& 63))) ||| ((1 : Int64) <<< (y.toInt64 &&& 63)))), .second] [(.int w), (.int (XT.ushr z (6 : Int32)))])
      by_cases c60_706 : (XT.ushr z (6 : Int32)) = w
      · refine go (fun _ => XS.icmpNo X0.here hx rfl (hb hby d13_60) rfl (XT.ii_ne_f c60_706)) ?_
        show Ends p e below s _ _ _ T0 (mkF m 63 #[iv w, .val (.long v), .second, iv (3 : Int32), iv x, iv y, iv z, .val (.long ((v ||| ((1 : Int64) <<< (x.toInt64 &&& 63))) ||| ((1 : Int64) <<< (y.toInt64 &&& 63)))), .second] [])
        refine go (fun _ => XT.lload X0.here hx rfl (hb hby d13_63) rfl) ?_
        refine go (fun _ => XT.lconstV X0.here hx rfl (1 : Int64) (hb hby d13_65) (by decide)) ?_
        refine go (fun _ => XS.iload X0.here hx rfl (hb hby d13_66) rfl) ?_
        refine go (fun _ => XT.lshl X0.here hx rfl (hb hby d13_68) rfl) ?_
        refine go (fun _ => XT.lor X0.here hx rfl (hb hby d13_69) rfl) ?_
        refine go (fun _ => XT.lstore X0.here hx rfl (hb hby d13_70) rfl (l' := #[iv w, .val (.long v), .second, iv (3 : Int32), iv x, iv y, iv z, .val (.long (((v ||| ((1 : Int64) <<< (x.toInt64 &&& 63))) ||| ((1 : Int64) <<< (y.toInt64 &&& 63))) ||| ((1 : Int64) <<< (z.toInt64 &&& 63)))), .second]) rfl) ?_
        show Ends p e below s _ _ _ T0 (mkF m 72 #[iv w, .val (.long v), .second, iv (3 : Int32), iv x, iv y, iv z, .val (.long (((v ||| ((1 : Int64) <<< (x.toInt64 &&& 63))) ||| ((1 : Int64) <<< (y.toInt64 &&& 63))) ||| ((1 : Int64) <<< (z.toInt64 &&& 63)))), .second] [])
        refine go (fun _ => XT.lload X0.here hx rfl (hb hby d13_72) rfl) ?_
        show Ends p e below s _ _ _ T0 (mkF m 74 #[iv w, .val (.long v), .second, iv (3 : Int32), iv x, iv y, iv z, .val (.long (((v ||| ((1 : Int64) <<< (x.toInt64 &&& 63))) ||| ((1 : Int64) <<< (y.toInt64 &&& 63))) ||| ((1 : Int64) <<< (z.toInt64 &&& 63)))), .second] [(.long (((v ||| ((1 : Int64) <<< (x.toInt64 &&& 63))) ||| ((1 : Int64) <<< (y.toInt64 &&& 63))) ||| ((1 : Int64) <<< (z.toInt64 &&& 63))))])
        exact endJ X0 hx hlk hret (hb hby d13_74) e0 ⟨by simp [own_acc, c14_704, c37_705, c60_706], (Fr.nil _), rfl⟩ (by decide) (by decide)
      · refine go (fun _ => XS.icmpYes X0.here hx rfl (pc0 := 60) (pc' := 72) rfl (hb hby d13_60) rfl (XT.ii_ne_t c60_706) (by decide) (by decide)) ?_
        show Ends p e below s _ _ _ T0 (mkF m 72 #[iv w, .val (.long v), .second, iv (3 : Int32), iv x, iv y, iv z, .val (.long ((v ||| ((1 : Int64) <<< (x.toInt64 &&& 63))) ||| ((1 : Int64) <<< (y.toInt64 &&& 63)))), .second] [])
        refine go (fun _ => XT.lload X0.here hx rfl (hb hby d13_72) rfl) ?_
        show Ends p e below s _ _ _ T0 (mkF m 74 #[iv w, .val (.long v), .second, iv (3 : Int32), iv x, iv y, iv z, .val (.long ((v ||| ((1 : Int64) <<< (x.toInt64 &&& 63))) ||| ((1 : Int64) <<< (y.toInt64 &&& 63)))), .second] [(.long ((v ||| ((1 : Int64) <<< (x.toInt64 &&& 63))) ||| ((1 : Int64) <<< (y.toInt64 &&& 63))))])
        exact endJ X0 hx hlk hret (hb hby d13_74) e0 ⟨by simp [own_acc, c14_704, c37_705, c60_706], (Fr.nil _), rfl⟩ (by decide) (by decide)
    · refine go (fun _ => XS.icmpYes X0.here hx rfl (pc0 := 37) (pc' := 49) rfl (hb hby d13_37) rfl (XT.ii_ne_t c37_705) (by decide) (by decide)) ?_
      show Ends p e below s _ _ _ T0 (mkF m 49 #[iv w, .val (.long v), .second, iv (3 : Int32), iv x, iv y, iv z, .val (.long (v ||| ((1 : Int64) <<< (x.toInt64 &&& 63)))), .second] [])
      refine go (fun _ => XS.iloadN X0.here hx rfl (hb hby d13_49) rfl) ?_
      refine go (fun _ => XT.iconstV X0.here hx rfl (3 : Int32) (hb hby d13_50) (by decide)) ?_
      show Ends p e below s _ _ _ T0 (mkF m 51 #[iv w, .val (.long v), .second, iv (3 : Int32), iv x, iv y, iv z, .val (.long (v ||| ((1 : Int64) <<< (x.toInt64 &&& 63)))), .second] [(.int (3 : Int32)), (.int (3 : Int32))])
      refine go (fun _ => XS.icmpNo X0.here hx rfl (hb hby d13_51) rfl (XT.ii_lt_f ((by decide) : ¬ ((3 : Int32) < (3 : Int32))))) ?_
      show Ends p e below s _ _ _ T0 (mkF m 54 #[iv w, .val (.long v), .second, iv (3 : Int32), iv x, iv y, iv z, .val (.long (v ||| ((1 : Int64) <<< (x.toInt64 &&& 63)))), .second] [])
      refine go (fun _ => XS.iload X0.here hx rfl (hb hby d13_54) rfl) ?_
      refine go (fun _ => XT.bipushV X0.here hx rfl (6 : Int32) (hb hby d13_56) (by decide)) ?_
      refine go (fun _ => XT.iushr X0.here hx rfl (hb hby d13_58) rfl) ?_
      refine go (fun _ => XS.iloadN X0.here hx rfl (hb hby d13_59) rfl) ?_
      show Ends p e below s _ _ _ T0 (mkF m 60 #[iv w, .val (.long v), .second, iv (3 : Int32), iv x, iv y, iv z, .val (.long (v ||| ((1 : Int64) <<< (x.toInt64 &&& 63)))), .second] [(.int w), (.int (XT.ushr z (6 : Int32)))])
      by_cases c60_707 : (XT.ushr z (6 : Int32)) = w
      · refine go (fun _ => XS.icmpNo X0.here hx rfl (hb hby d13_60) rfl (XT.ii_ne_f c60_707)) ?_
        show Ends p e below s _ _ _ T0 (mkF m 63 #[iv w, .val (.long v), .second, iv (3 : Int32), iv x, iv y, iv z, .val (.long (v ||| ((1 : Int64) <<< (x.toInt64 &&& 63)))), .second] [])
        refine go (fun _ => XT.lload X0.here hx rfl (hb hby d13_63) rfl) ?_
        refine go (fun _ => XT.lconstV X0.here hx rfl (1 : Int64) (hb hby d13_65) (by decide)) ?_
        refine go (fun _ => XS.iload X0.here hx rfl (hb hby d13_66) rfl) ?_
        refine go (fun _ => XT.lshl X0.here hx rfl (hb hby d13_68) rfl) ?_
        refine go (fun _ => XT.lor X0.here hx rfl (hb hby d13_69) rfl) ?_
        refine go (fun _ => XT.lstore X0.here hx rfl (hb hby d13_70) rfl (l' := #[iv w, .val (.long v), .second, iv (3 : Int32), iv x, iv y, iv z, .val (.long ((v ||| ((1 : Int64) <<< (x.toInt64 &&& 63))) ||| ((1 : Int64) <<< (z.toInt64 &&& 63)))), .second]) rfl) ?_
        show Ends p e below s _ _ _ T0 (mkF m 72 #[iv w, .val (.long v), .second, iv (3 : Int32), iv x, iv y, iv z, .val (.long ((v ||| ((1 : Int64) <<< (x.toInt64 &&& 63))) ||| ((1 : Int64) <<< (z.toInt64 &&& 63)))), .second] [])
        refine go (fun _ => XT.lload X0.here hx rfl (hb hby d13_72) rfl) ?_
        show Ends p e below s _ _ _ T0 (mkF m 74 #[iv w, .val (.long v), .second, iv (3 : Int32), iv x, iv y, iv z, .val (.long ((v ||| ((1 : Int64) <<< (x.toInt64 &&& 63))) ||| ((1 : Int64) <<< (z.toInt64 &&& 63)))), .second] [(.long ((v ||| ((1 : Int64) <<< (x.toInt64 &&& 63))) ||| ((1 : Int64) <<< (z.toInt64 &&& 63))))])
        exact endJ X0 hx hlk hret (hb hby d13_74) e0 ⟨by simp [own_acc, c14_704, c37_705, c60_707], (Fr.nil _), rfl⟩ (by decide) (by decide)
      · refine go (fun _ => XS.icmpYes X0.here hx rfl (pc0 := 60) (pc' := 72) rfl (hb hby d13_60) rfl (XT.ii_ne_t c60_707) (by decide) (by decide)) ?_
        show Ends p e below s _ _ _ T0 (mkF m 72 #[iv w, .val (.long v), .second, iv (3 : Int32), iv x, iv y, iv z, .val (.long (v ||| ((1 : Int64) <<< (x.toInt64 &&& 63)))), .second] [])
        refine go (fun _ => XT.lload X0.here hx rfl (hb hby d13_72) rfl) ?_
        show Ends p e below s _ _ _ T0 (mkF m 74 #[iv w, .val (.long v), .second, iv (3 : Int32), iv x, iv y, iv z, .val (.long (v ||| ((1 : Int64) <<< (x.toInt64 &&& 63)))), .second] [(.long (v ||| ((1 : Int64) <<< (x.toInt64 &&& 63))))])
        exact endJ X0 hx hlk hret (hb hby d13_74) e0 ⟨by simp [own_acc, c14_704, c37_705, c60_707], (Fr.nil _), rfl⟩ (by decide) (by decide)
  · refine go (fun _ => XS.icmpYes X0.here hx rfl (pc0 := 14) (pc' := 26) rfl (hb hby d13_14) rfl (XT.ii_ne_t c14_704) (by decide) (by decide)) ?_
    show Ends p e below s _ _ _ T0 (mkF m 26 #[iv w, .val (.long v), .second, iv (3 : Int32), iv x, iv y, iv z, .val (.long v), .second] [])
    refine go (fun _ => XS.iloadN X0.here hx rfl (hb hby d13_26) rfl) ?_
    refine go (fun _ => XT.iconstV X0.here hx rfl (2 : Int32) (hb hby d13_27) (by decide)) ?_
    show Ends p e below s _ _ _ T0 (mkF m 28 #[iv w, .val (.long v), .second, iv (3 : Int32), iv x, iv y, iv z, .val (.long v), .second] [(.int (2 : Int32)), (.int (3 : Int32))])
    refine go (fun _ => XS.icmpNo X0.here hx rfl (hb hby d13_28) rfl (XT.ii_lt_f ((by decide) : ¬ ((3 : Int32) < (2 : Int32))))) ?_
    show Ends p e below s _ _ _ T0 (mkF m 31 #[iv w, .val (.long v), .second, iv (3 : Int32), iv x, iv y, iv z, .val (.long v), .second] [])
    refine go (fun _ => XS.iload X0.here hx rfl (hb hby d13_31) rfl) ?_
    refine go (fun _ => XT.bipushV X0.here hx rfl (6 : Int32) (hb hby d13_33) (by decide)) ?_
    refine go (fun _ => XT.iushr X0.here hx rfl (hb hby d13_35) rfl) ?_
    refine go (fun _ => XS.iloadN X0.here hx rfl (hb hby d13_36) rfl) ?_
    show Ends p e below s _ _ _ T0 (mkF m 37 #[iv w, .val (.long v), .second, iv (3 : Int32), iv x, iv y, iv z, .val (.long v), .second] [(.int w), (.int (XT.ushr y (6 : Int32)))])
    by_cases c37_708 : (XT.ushr y (6 : Int32)) = w
    · refine go (fun _ => XS.icmpNo X0.here hx rfl (hb hby d13_37) rfl (XT.ii_ne_f c37_708)) ?_
      show Ends p e below s _ _ _ T0 (mkF m 40 #[iv w, .val (.long v), .second, iv (3 : Int32), iv x, iv y, iv z, .val (.long v), .second] [])
      refine go (fun _ => XT.lload X0.here hx rfl (hb hby d13_40) rfl) ?_
      refine go (fun _ => XT.lconstV X0.here hx rfl (1 : Int64) (hb hby d13_42) (by decide)) ?_
      refine go (fun _ => XS.iload X0.here hx rfl (hb hby d13_43) rfl) ?_
      refine go (fun _ => XT.lshl X0.here hx rfl (hb hby d13_45) rfl) ?_
      refine go (fun _ => XT.lor X0.here hx rfl (hb hby d13_46) rfl) ?_
      refine go (fun _ => XT.lstore X0.here hx rfl (hb hby d13_47) rfl (l' := #[iv w, .val (.long v), .second, iv (3 : Int32), iv x, iv y, iv z, .val (.long (v ||| ((1 : Int64) <<< (y.toInt64 &&& 63)))), .second]) rfl) ?_
      show Ends p e below s _ _ _ T0 (mkF m 49 #[iv w, .val (.long v), .second, iv (3 : Int32), iv x, iv y, iv z, .val (.long (v ||| ((1 : Int64) <<< (y.toInt64 &&& 63)))), .second] [])
      refine go (fun _ => XS.iloadN X0.here hx rfl (hb hby d13_49) rfl) ?_
      refine go (fun _ => XT.iconstV X0.here hx rfl (3 : Int32) (hb hby d13_50) (by decide)) ?_
      show Ends p e below s _ _ _ T0 (mkF m 51 #[iv w, .val (.long v), .second, iv (3 : Int32), iv x, iv y, iv z, .val (.long (v ||| ((1 : Int64) <<< (y.toInt64 &&& 63)))), .second] [(.int (3 : Int32)), (.int (3 : Int32))])
      refine go (fun _ => XS.icmpNo X0.here hx rfl (hb hby d13_51) rfl (XT.ii_lt_f ((by decide) : ¬ ((3 : Int32) < (3 : Int32))))) ?_
      show Ends p e below s _ _ _ T0 (mkF m 54 #[iv w, .val (.long v), .second, iv (3 : Int32), iv x, iv y, iv z, .val (.long (v ||| ((1 : Int64) <<< (y.toInt64 &&& 63)))), .second] [])
      refine go (fun _ => XS.iload X0.here hx rfl (hb hby d13_54) rfl) ?_
      refine go (fun _ => XT.bipushV X0.here hx rfl (6 : Int32) (hb hby d13_56) (by decide)) ?_
      refine go (fun _ => XT.iushr X0.here hx rfl (hb hby d13_58) rfl) ?_
      refine go (fun _ => XS.iloadN X0.here hx rfl (hb hby d13_59) rfl) ?_
      show Ends p e below s _ _ _ T0 (mkF m 60 #[iv w, .val (.long v), .second, iv (3 : Int32), iv x, iv y, iv z, .val (.long (v ||| ((1 : Int64) <<< (y.toInt64 &&& 63)))), .second] [(.int w), (.int (XT.ushr z (6 : Int32)))])
      by_cases c60_709 : (XT.ushr z (6 : Int32)) = w
      · refine go (fun _ => XS.icmpNo X0.here hx rfl (hb hby d13_60) rfl (XT.ii_ne_f c60_709)) ?_
        show Ends p e below s _ _ _ T0 (mkF m 63 #[iv w, .val (.long v), .second, iv (3 : Int32), iv x, iv y, iv z, .val (.long (v ||| ((1 : Int64) <<< (y.toInt64 &&& 63)))), .second] [])
        refine go (fun _ => XT.lload X0.here hx rfl (hb hby d13_63) rfl) ?_
        refine go (fun _ => XT.lconstV X0.here hx rfl (1 : Int64) (hb hby d13_65) (by decide)) ?_
        refine go (fun _ => XS.iload X0.here hx rfl (hb hby d13_66) rfl) ?_
        refine go (fun _ => XT.lshl X0.here hx rfl (hb hby d13_68) rfl) ?_
        refine go (fun _ => XT.lor X0.here hx rfl (hb hby d13_69) rfl) ?_
        refine go (fun _ => XT.lstore X0.here hx rfl (hb hby d13_70) rfl (l' := #[iv w, .val (.long v), .second, iv (3 : Int32), iv x, iv y, iv z, .val (.long ((v ||| ((1 : Int64) <<< (y.toInt64 &&& 63))) ||| ((1 : Int64) <<< (z.toInt64 &&& 63)))), .second]) rfl) ?_
        show Ends p e below s _ _ _ T0 (mkF m 72 #[iv w, .val (.long v), .second, iv (3 : Int32), iv x, iv y, iv z, .val (.long ((v ||| ((1 : Int64) <<< (y.toInt64 &&& 63))) ||| ((1 : Int64) <<< (z.toInt64 &&& 63)))), .second] [])
        refine go (fun _ => XT.lload X0.here hx rfl (hb hby d13_72) rfl) ?_
        show Ends p e below s _ _ _ T0 (mkF m 74 #[iv w, .val (.long v), .second, iv (3 : Int32), iv x, iv y, iv z, .val (.long ((v ||| ((1 : Int64) <<< (y.toInt64 &&& 63))) ||| ((1 : Int64) <<< (z.toInt64 &&& 63)))), .second] [(.long ((v ||| ((1 : Int64) <<< (y.toInt64 &&& 63))) ||| ((1 : Int64) <<< (z.toInt64 &&& 63))))])
        exact endJ X0 hx hlk hret (hb hby d13_74) e0 ⟨by simp [own_acc, c14_704, c37_708, c60_709], (Fr.nil _), rfl⟩ (by decide) (by decide)
      · refine go (fun _ => XS.icmpYes X0.here hx rfl (pc0 := 60) (pc' := 72) rfl (hb hby d13_60) rfl (XT.ii_ne_t c60_709) (by decide) (by decide)) ?_
        show Ends p e below s _ _ _ T0 (mkF m 72 #[iv w, .val (.long v), .second, iv (3 : Int32), iv x, iv y, iv z, .val (.long (v ||| ((1 : Int64) <<< (y.toInt64 &&& 63)))), .second] [])
        refine go (fun _ => XT.lload X0.here hx rfl (hb hby d13_72) rfl) ?_
        show Ends p e below s _ _ _ T0 (mkF m 74 #[iv w, .val (.long v), .second, iv (3 : Int32), iv x, iv y, iv z, .val (.long (v ||| ((1 : Int64) <<< (y.toInt64 &&& 63)))), .second] [(.long (v ||| ((1 : Int64) <<< (y.toInt64 &&& 63))))])
        exact endJ X0 hx hlk hret (hb hby d13_74) e0 ⟨by simp [own_acc, c14_704, c37_708, c60_709], (Fr.nil _), rfl⟩ (by decide) (by decide)
    · refine go (fun _ => XS.icmpYes X0.here hx rfl (pc0 := 37) (pc' := 49) rfl (hb hby d13_37) rfl (XT.ii_ne_t c37_708) (by decide) (by decide)) ?_
      show Ends p e below s _ _ _ T0 (mkF m 49 #[iv w, .val (.long v), .second, iv (3 : Int32), iv x, iv y, iv z, .val (.long v), .second] [])
      refine go (fun _ => XS.iloadN X0.here hx rfl (hb hby d13_49) rfl) ?_
      refine go (fun _ => XT.iconstV X0.here hx rfl (3 : Int32) (hb hby d13_50) (by decide)) ?_
      show Ends p e below s _ _ _ T0 (mkF m 51 #[iv w, .val (.long v), .second, iv (3 : Int32), iv x, iv y, iv z, .val (.long v), .second] [(.int (3 : Int32)), (.int (3 : Int32))])
      refine go (fun _ => XS.icmpNo X0.here hx rfl (hb hby d13_51) rfl (XT.ii_lt_f ((by decide) : ¬ ((3 : Int32) < (3 : Int32))))) ?_
      show Ends p e below s _ _ _ T0 (mkF m 54 #[iv w, .val (.long v), .second, iv (3 : Int32), iv x, iv y, iv z, .val (.long v), .second] [])
      refine go (fun _ => XS.iload X0.here hx rfl (hb hby d13_54) rfl) ?_
      refine go (fun _ => XT.bipushV X0.here hx rfl (6 : Int32) (hb hby d13_56) (by decide)) ?_
      refine go (fun _ => XT.iushr X0.here hx rfl (hb hby d13_58) rfl) ?_
      refine go (fun _ => XS.iloadN X0.here hx rfl (hb hby d13_59) rfl) ?_
      show Ends p e below s _ _ _ T0 (mkF m 60 #[iv w, .val (.long v), .second, iv (3 : Int32), iv x, iv y, iv z, .val (.long v), .second] [(.int w), (.int (XT.ushr z (6 : Int32)))])
      by_cases c60_710 : (XT.ushr z (6 : Int32)) = w
      · refine go (fun _ => XS.icmpNo X0.here hx rfl (hb hby d13_60) rfl (XT.ii_ne_f c60_710)) ?_
        show Ends p e below s _ _ _ T0 (mkF m 63 #[iv w, .val (.long v), .second, iv (3 : Int32), iv x, iv y, iv z, .val (.long v), .second] [])
        refine go (fun _ => XT.lload X0.here hx rfl (hb hby d13_63) rfl) ?_
        refine go (fun _ => XT.lconstV X0.here hx rfl (1 : Int64) (hb hby d13_65) (by decide)) ?_
        refine go (fun _ => XS.iload X0.here hx rfl (hb hby d13_66) rfl) ?_
        refine go (fun _ => XT.lshl X0.here hx rfl (hb hby d13_68) rfl) ?_
        refine go (fun _ => XT.lor X0.here hx rfl (hb hby d13_69) rfl) ?_
        refine go (fun _ => XT.lstore X0.here hx rfl (hb hby d13_70) rfl (l' := #[iv w, .val (.long v), .second, iv (3 : Int32), iv x, iv y, iv z, .val (.long (v ||| ((1 : Int64) <<< (z.toInt64 &&& 63)))), .second]) rfl) ?_
        show Ends p e below s _ _ _ T0 (mkF m 72 #[iv w, .val (.long v), .second, iv (3 : Int32), iv x, iv y, iv z, .val (.long (v ||| ((1 : Int64) <<< (z.toInt64 &&& 63)))), .second] [])
        refine go (fun _ => XT.lload X0.here hx rfl (hb hby d13_72) rfl) ?_
        show Ends p e below s _ _ _ T0 (mkF m 74 #[iv w, .val (.long v), .second, iv (3 : Int32), iv x, iv y, iv z, .val (.long (v ||| ((1 : Int64) <<< (z.toInt64 &&& 63)))), .second] [(.long (v ||| ((1 : Int64) <<< (z.toInt64 &&& 63))))])
        exact endJ X0 hx hlk hret (hb hby d13_74) e0 ⟨by simp [own_acc, c14_704, c37_708, c60_710], (Fr.nil _), rfl⟩ (by decide) (by decide)
      · refine go (fun _ => XS.icmpYes X0.here hx rfl (pc0 := 60) (pc' := 72) rfl (hb hby d13_60) rfl (XT.ii_ne_t c60_710) (by decide) (by decide)) ?_
        show Ends p e below s _ _ _ T0 (mkF m 72 #[iv w, .val (.long v), .second, iv (3 : Int32), iv x, iv y, iv z, .val (.long v), .second] [])
        refine go (fun _ => XT.lload X0.here hx rfl (hb hby d13_72) rfl) ?_
        show Ends p e below s _ _ _ T0 (mkF m 74 #[iv w, .val (.long v), .second, iv (3 : Int32), iv x, iv y, iv z, .val (.long v), .second] [(.long v)])
        exact endJ X0 hx hlk hret (hb hby d13_74) e0 ⟨by simp [own_acc, c14_704, c37_708, c60_710], (Fr.nil _), rfl⟩ (by decide) (by decide)
set_option maxRecDepth 65536 in
set_option maxHeartbeats 40000000 in
theorem rm_law {l : Launch} {Z : State} {a0 : Array Value} (hw : ∀ d ∈ tables_1, d.before a0 Z = true) (i0 i1 i2 i3 : Int32) (j4 j5 : Int64) (aI : Addr) (aW : Addr) (k_aI : ClassId) (k_aW : ClassId) (h0 : Heap) (O0 : Ext Z.heap h0) (ft_2 : Sta Z Z.heap "com/example/libtbox/libtbox/core/SparseBitSet" "NO_INDICES" "[I" (.ref aI)) (ft_7 : Sta Z Z.heap "com/example/libtbox/libtbox/core/SparseBitSet" "NO_WORDS" "[J" (.ref aW)) (ex_4 : Exa Z Z.heap aI "[I") (ex_9 : Exa Z Z.heap aW "[J") (av_11 : Arv Z Z.heap aI k_aI .int (0 : Int32) [] (.int 0)) (av_12 : Arv Z Z.heap aW k_aW .long (0 : Int32) [] (.long 0)) :
    Con l x code maxLocals ret room_1 Z #[(.int i0), (.int i1), (.int i2), (.int i3), (.long j4), (.long j5)] h0 (fun v h L => v = some (.int 1) ∧ Fr Z.heap.size L) := by
  refine Con.of (plainFor_of_name pn_10) (Ls := #[iv i0, iv i1, iv i2, iv i3, .val (.long j4), .second, .val (.long j5), .second, .unset, .unset, .unset, .unset, .unset, .unset, .unset, .unset, .unset, .unset, .unset, .unset, .unset, .unset]) (fun m => efOf rfl) ?_
  intro p e s m below meth c T0 X0 hx hZ hby hml hown hnm hret hlk e0
  have hml : c.maxLocals = 22 := hml
  refine go (fun _ => XS.iloadN X0.here hx rfl (hb hby at_0) rfl) ?_
  refine go (fun _ => XT.iconstV X0.here hx rfl (3 : Int32) (hb hby at_1) (by decide)) ?_
  refine go (fun _ => XS.iand X0.here hx rfl (hb hby at_2) rfl) ?_
  show Ends p e below s _ _ _ T0 (mkF m 3 #[iv i0, iv i1, iv i2, iv i3, .val (.long j4), .second, .val (.long j5), .second, .unset, .unset, .unset, .unset, .unset, .unset, .unset, .unset, .unset, .unset, .unset, .unset, .unset, .unset] [(.int (i3 &&& (3 : Int32)))])
  obtain ⟨kk, hkk⟩ : ∃ z : Int32, z = (i3 &&& (3 : Int32)) := ⟨_, rfl⟩
  rw [← hkk]
  show Ends p e below s _ _ _ T0 (mkF m 3 #[iv i0, iv i1, iv i2, iv i3, .val (.long j4), .second, .val (.long j5), .second, .unset, .unset, .unset, .unset, .unset, .unset, .unset, .unset, .unset, .unset, .unset, .unset, .unset, .unset] [(.int kk)])
  rcases own_four hkk with q | q | q | q
  · rw [q]
    show Ends p e below s _ _ _ T0 (mkF m 3 #[iv i0, iv i1, iv i2, iv i3, .val (.long j4), .second, .val (.long j5), .second, .unset, .unset, .unset, .unset, .unset, .unset, .unset, .unset, .unset, .unset, .unset, .unset, .unset, .unset] [(.int (0 : Int32))])
    refine go (fun _ => XS.istore X0.here hx rfl (hb hby at_3) rfl (l' := #[iv i0, iv i1, iv i2, iv i3, .val (.long j4), .second, .val (.long j5), .second, iv (0 : Int32), .unset, .unset, .unset, .unset, .unset, .unset, .unset, .unset, .unset, .unset, .unset, .unset, .unset]) rfl) ?_
    refine go (fun _ => XS.iloadN X0.here hx rfl (hb hby at_5) rfl) ?_
    refine go (fun _ => XT.sipushV X0.here hx rfl (255 : Int32) (hb hby at_6) (by decide)) ?_
    refine go (fun _ => XS.iand X0.here hx rfl (hb hby at_9) rfl) ?_
    show Ends p e below s _ _ _ T0 (mkF m 10 #[iv i0, iv i1, iv i2, iv i3, .val (.long j4), .second, .val (.long j5), .second, iv (0 : Int32), .unset, .unset, .unset, .unset, .unset, .unset, .unset, .unset, .unset, .unset, .unset, .unset, .unset] [(.int (i0 &&& (255 : Int32)))])
    obtain ⟨xv, hxv⟩ : ∃ z : Int32, z = (i0 &&& (255 : Int32)) := ⟨_, rfl⟩
    rw [← hxv]
    show Ends p e below s _ _ _ T0 (mkF m 10 #[iv i0, iv i1, iv i2, iv i3, .val (.long j4), .second, .val (.long j5), .second, iv (0 : Int32), .unset, .unset, .unset, .unset, .unset, .unset, .unset, .unset, .unset, .unset, .unset, .unset, .unset] [(.int xv)])
    refine go (fun _ => XS.istore X0.here hx rfl (hb hby at_10) rfl (l' := #[iv i0, iv i1, iv i2, iv i3, .val (.long j4), .second, .val (.long j5), .second, iv (0 : Int32), iv xv, .unset, .unset, .unset, .unset, .unset, .unset, .unset, .unset, .unset, .unset, .unset, .unset]) rfl) ?_
    refine go (fun _ => XS.iloadN X0.here hx rfl (hb hby at_12) rfl) ?_
    refine go (fun _ => XT.sipushV X0.here hx rfl (255 : Int32) (hb hby at_13) (by decide)) ?_
    refine go (fun _ => XS.iand X0.here hx rfl (hb hby at_16) rfl) ?_
    show Ends p e below s _ _ _ T0 (mkF m 17 #[iv i0, iv i1, iv i2, iv i3, .val (.long j4), .second, .val (.long j5), .second, iv (0 : Int32), iv xv, .unset, .unset, .unset, .unset, .unset, .unset, .unset, .unset, .unset, .unset, .unset, .unset] [(.int (i1 &&& (255 : Int32)))])
    obtain ⟨yv, hyv⟩ : ∃ z : Int32, z = (i1 &&& (255 : Int32)) := ⟨_, rfl⟩
    rw [← hyv]
    show Ends p e below s _ _ _ T0 (mkF m 17 #[iv i0, iv i1, iv i2, iv i3, .val (.long j4), .second, .val (.long j5), .second, iv (0 : Int32), iv xv, .unset, .unset, .unset, .unset, .unset, .unset, .unset, .unset, .unset, .unset, .unset, .unset] [(.int yv)])
    refine go (fun _ => XS.istore X0.here hx rfl (hb hby at_17) rfl (l' := #[iv i0, iv i1, iv i2, iv i3, .val (.long j4), .second, .val (.long j5), .second, iv (0 : Int32), iv xv, iv yv, .unset, .unset, .unset, .unset, .unset, .unset, .unset, .unset, .unset, .unset, .unset]) rfl) ?_
    refine go (fun _ => XS.iloadN X0.here hx rfl (hb hby at_19) rfl) ?_
    refine go (fun _ => XT.sipushV X0.here hx rfl (255 : Int32) (hb hby at_20) (by decide)) ?_
    refine go (fun _ => XS.iand X0.here hx rfl (hb hby at_23) rfl) ?_
    show Ends p e below s _ _ _ T0 (mkF m 24 #[iv i0, iv i1, iv i2, iv i3, .val (.long j4), .second, .val (.long j5), .second, iv (0 : Int32), iv xv, iv yv, .unset, .unset, .unset, .unset, .unset, .unset, .unset, .unset, .unset, .unset, .unset] [(.int (i2 &&& (255 : Int32)))])
    obtain ⟨zv, hzv⟩ : ∃ z : Int32, z = (i2 &&& (255 : Int32)) := ⟨_, rfl⟩
    rw [← hzv]
    show Ends p e below s _ _ _ T0 (mkF m 24 #[iv i0, iv i1, iv i2, iv i3, .val (.long j4), .second, .val (.long j5), .second, iv (0 : Int32), iv xv, iv yv, .unset, .unset, .unset, .unset, .unset, .unset, .unset, .unset, .unset, .unset, .unset] [(.int zv)])
    refine go (fun _ => XS.istore X0.here hx rfl (hb hby at_24) rfl (l' := #[iv i0, iv i1, iv i2, iv i3, .val (.long j4), .second, .val (.long j5), .second, iv (0 : Int32), iv xv, iv yv, iv zv, .unset, .unset, .unset, .unset, .unset, .unset, .unset, .unset, .unset, .unset]) rfl) ?_
    show Ends p e below s _ _ _ T0 (mkF m 26 #[iv i0, iv i1, iv i2, iv i3, .val (.long j4), .second, .val (.long j5), .second, iv (0 : Int32), iv xv, iv yv, iv zv, .unset, .unset, .unset, .unset, .unset, .unset, .unset, .unset, .unset, .unset] [])
    obtain ⟨T711, h711, X711, e711, E711, A711, D711, U711, s711⟩ := newO X0 hx hZ hown (hwi hw 0 rfl) (hwi hw 1 rfl) (hwi hw 2 rfl) e0 (g := (mkF m 26 #[iv i0, iv i1, iv i2, iv i3, .val (.long j4), .second, .val (.long j5), .second, iv (0 : Int32), iv xv, iv yv, iv zv, .unset, .unset, .unset, .unset, .unset, .unset, .unset, .unset, .unset, .unset] [])) rfl (hb hby at_26) (by decide) (by decide)
    obtain ⟨a711, g711⟩ : ∃ z : Addr, z = h0.size := ⟨_, rfl⟩
    have f711 : Z.heap.size ≤ a711 := by rw [g711]; exact (O0).1
    rw [← g711] at A711 D711 U711 s711
    have O712 : Ext Z.heap h711 := xx O0 E711
    refine go s711 ?_
    show Ends p e below s _ _ _ T711 (mkF m 29 #[iv i0, iv i1, iv i2, iv i3, .val (.long j4), .second, .val (.long j5), .second, iv (0 : Int32), iv xv, iv yv, iv zv, .unset, .unset, .unset, .unset, .unset, .unset, .unset, .unset, .unset, .unset] [(.ref a711)])
    refine go (fun _ => XS.dup X711.here hx rfl (hb hby at_29) rfl rfl) ?_
    show Ends p e below s _ _ _ T711 (mkF m 30 #[iv i0, iv i1, iv i2, iv i3, .val (.long j4), .second, .val (.long j5), .second, iv (0 : Int32), iv xv, iv yv, iv zv, .unset, .unset, .unset, .unset, .unset, .unset, .unset, .unset, .unset, .unset] [(.ref a711), (.ref a711)])
    have F713 := (D711 (Or.inl (hwi hw 12 rfl)) (ty := (.array .int)) (by decide))
    have F714 := (D711 (Or.inl (hwi hw 16 rfl)) (ty := (.array .long)) (by decide))
    have F715 := (D711 (Or.inl (hwi hw 29 rfl)) (ty := .int) (by decide))
    have F716 := (D711 (Or.inl (hwi hw 27 rfl)) (ty := .int) (by decide))
    refine cInit X711 hx hZ hown (by rw [hml]; rfl) e711 (hwi hw 3 rfl) (hwi hw 4 rfl) (hwi hw 2 rfl) (hwi hw 5 rfl) a711 [] [(.ref a711)] rfl (rm_sbinit hw a711 aI aW _ O712 f711 A711 F713 F714 F715 F716 ft_2 ft_7) (hb hby at_30) rfl (lenOf pd_11 rfl) rfl (by decide) (by decide) (Nat.le_of_ble_eq_true rfl) (by decide) (by decide) ?_
    rintro v717 T717 h717 L717 X717 e717 ⟨rfl, N717, K717, Q717_0, Q717_1, Q717_2, Q717_3⟩
    have N717a := Fr.app (Fr.nil _) N717
    have O718 : Ext Z.heap h717 := xk O712 K717 (allS f711 all0)
    show Ends p e below s _ _ _ T717 (mkF m 33 #[iv i0, iv i1, iv i2, iv i3, .val (.long j4), .second, .val (.long j5), .second, iv (0 : Int32), iv xv, iv yv, iv zv, .unset, .unset, .unset, .unset, .unset, .unset, .unset, .unset, .unset, .unset] [(.ref a711)])
    refine go (fun _ => XS.astore X717.here hx rfl (hb hby at_33) rfl rfl (l' := #[iv i0, iv i1, iv i2, iv i3, .val (.long j4), .second, .val (.long j5), .second, iv (0 : Int32), iv xv, iv yv, iv zv, rv a711, .unset, .unset, .unset, .unset, .unset, .unset, .unset, .unset, .unset]) rfl) ?_
    show Ends p e below s _ _ _ T717 (mkF m 35 #[iv i0, iv i1, iv i2, iv i3, .val (.long j4), .second, .val (.long j5), .second, iv (0 : Int32), iv xv, iv yv, iv zv, rv a711, .unset, .unset, .unset, .unset, .unset, .unset, .unset, .unset, .unset] [])
    refine go (fun _ => XS.iload X717.here hx rfl (hb hby at_35) rfl) ?_
    refine go (fun _ => XT.iconstV X717.here hx rfl (1 : Int32) (hb hby at_37) (by decide)) ?_
    show Ends p e below s _ _ _ T717 (mkF m 38 #[iv i0, iv i1, iv i2, iv i3, .val (.long j4), .second, .val (.long j5), .second, iv (0 : Int32), iv xv, iv yv, iv zv, rv a711, .unset, .unset, .unset, .unset, .unset, .unset, .unset, .unset, .unset] [(.int (1 : Int32)), (.int (0 : Int32))])
    refine go (fun _ => XS.icmpYes X717.here hx rfl (pc0 := 38) (pc' := 48) rfl (hb hby at_38) rfl (XT.ii_lt_t ((by decide) : (0 : Int32) < (1 : Int32))) (by decide) (by decide)) ?_
    show Ends p e below s _ _ _ T717 (mkF m 48 #[iv i0, iv i1, iv i2, iv i3, .val (.long j4), .second, .val (.long j5), .second, iv (0 : Int32), iv xv, iv yv, iv zv, rv a711, .unset, .unset, .unset, .unset, .unset, .unset, .unset, .unset, .unset] [])
    refine go (fun _ => XS.iload X717.here hx rfl (hb hby at_48) rfl) ?_
    refine go (fun _ => XT.iconstV X717.here hx rfl (2 : Int32) (hb hby at_50) (by decide)) ?_
    show Ends p e below s _ _ _ T717 (mkF m 51 #[iv i0, iv i1, iv i2, iv i3, .val (.long j4), .second, .val (.long j5), .second, iv (0 : Int32), iv xv, iv yv, iv zv, rv a711, .unset, .unset, .unset, .unset, .unset, .unset, .unset, .unset, .unset] [(.int (2 : Int32)), (.int (0 : Int32))])
    refine go (fun _ => XS.icmpYes X717.here hx rfl (pc0 := 51) (pc' := 61) rfl (hb hby at_51) rfl (XT.ii_lt_t ((by decide) : (0 : Int32) < (2 : Int32))) (by decide) (by decide)) ?_
    show Ends p e below s _ _ _ T717 (mkF m 61 #[iv i0, iv i1, iv i2, iv i3, .val (.long j4), .second, .val (.long j5), .second, iv (0 : Int32), iv xv, iv yv, iv zv, rv a711, .unset, .unset, .unset, .unset, .unset, .unset, .unset, .unset, .unset] [])
    refine go (fun _ => XS.iload X717.here hx rfl (hb hby at_61) rfl) ?_
    refine go (fun _ => XT.iconstV X717.here hx rfl (3 : Int32) (hb hby at_63) (by decide)) ?_
    show Ends p e below s _ _ _ T717 (mkF m 64 #[iv i0, iv i1, iv i2, iv i3, .val (.long j4), .second, .val (.long j5), .second, iv (0 : Int32), iv xv, iv yv, iv zv, rv a711, .unset, .unset, .unset, .unset, .unset, .unset, .unset, .unset, .unset] [(.int (3 : Int32)), (.int (0 : Int32))])
    refine go (fun _ => XS.icmpYes X717.here hx rfl (pc0 := 64) (pc' := 74) rfl (hb hby at_64) rfl (XT.ii_lt_t ((by decide) : (0 : Int32) < (3 : Int32))) (by decide) (by decide)) ?_
    show Ends p e below s _ _ _ T717 (mkF m 74 #[iv i0, iv i1, iv i2, iv i3, .val (.long j4), .second, .val (.long j5), .second, iv (0 : Int32), iv xv, iv yv, iv zv, rv a711, .unset, .unset, .unset, .unset, .unset, .unset, .unset, .unset, .unset] [])
    refine go (fun _ => XT.lload X717.here hx rfl (hb hby at_74) rfl) ?_
    refine go (fun _ => XT.lstore X717.here hx rfl (hb hby at_76) rfl (l' := #[iv i0, iv i1, iv i2, iv i3, .val (.long j4), .second, .val (.long j5), .second, iv (0 : Int32), iv xv, iv yv, iv zv, rv a711, .val (.long j4), .second, .unset, .unset, .unset, .unset, .unset, .unset, .unset]) rfl) ?_
    refine go (fun _ => XT.lload X717.here hx rfl (hb hby at_78) rfl) ?_
    refine go (fun _ => XT.lstore X717.here hx rfl (hb hby at_80) rfl (l' := #[iv i0, iv i1, iv i2, iv i3, .val (.long j4), .second, .val (.long j5), .second, iv (0 : Int32), iv xv, iv yv, iv zv, rv a711, .val (.long j4), .second, .val (.long j5), .second, .unset, .unset, .unset, .unset, .unset]) rfl) ?_
    refine go (fun _ => XT.lload X717.here hx rfl (hb hby at_82) rfl) ?_
    show Ends p e below s _ _ _ T717 (mkF m 84 #[iv i0, iv i1, iv i2, iv i3, .val (.long j4), .second, .val (.long j5), .second, iv (0 : Int32), iv xv, iv yv, iv zv, rv a711, .val (.long j4), .second, .val (.long j5), .second, .unset, .unset, .unset, .unset, .unset] [(.long j4)])
    refine go (fun _ => Jvm.Stand.ldc2J X717 hx hown (mvT hZ (hwi hw 59 rfl)) rfl (hb hby at_84)) ?_
    show Ends p e below s _ _ _ T717 (mkF m 87 #[iv i0, iv i1, iv i2, iv i3, .val (.long j4), .second, .val (.long j5), .second, iv (0 : Int32), iv xv, iv yv, iv zv, rv a711, .val (.long j4), .second, .val (.long j5), .second, .unset, .unset, .unset, .unset, .unset] [(.long (-1 : Int64)), (.long j4)])
    refine go (fun _ => XT.lxor X717.here hx rfl (hb hby at_87) rfl) ?_
    refine go (fun _ => XT.lstore X717.here hx rfl (hb hby at_88) rfl (l' := #[iv i0, iv i1, iv i2, iv i3, .val (.long j4), .second, .val (.long j5), .second, iv (0 : Int32), iv xv, iv yv, iv zv, rv a711, .val (.long j4), .second, .val (.long j5), .second, .val (.long (j4 ^^^ (-1 : Int64))), .second, .unset, .unset, .unset]) rfl) ?_
    refine go (fun _ => XT.lload X717.here hx rfl (hb hby at_90) rfl) ?_
    refine go (fun _ => XT.lload X717.here hx rfl (hb hby at_92) rfl) ?_
    refine go (fun _ => XT.lxor X717.here hx rfl (hb hby at_94) rfl) ?_
    refine go (fun _ => XT.lstore X717.here hx rfl (hb hby at_95) rfl (l' := #[iv i0, iv i1, iv i2, iv i3, .val (.long j4), .second, .val (.long j5), .second, iv (0 : Int32), iv xv, iv yv, iv zv, rv a711, .val (.long j4), .second, .val (.long j5), .second, .val (.long (j4 ^^^ (-1 : Int64))), .second, .val (.long (j4 ^^^ j5)), .second, .unset]) rfl) ?_
    show Ends p e below s _ _ _ T717 (mkF m 97 #[iv i0, iv i1, iv i2, iv i3, .val (.long j4), .second, .val (.long j5), .second, iv (0 : Int32), iv xv, iv yv, iv zv, rv a711, .val (.long j4), .second, .val (.long j5), .second, .val (.long (j4 ^^^ (-1 : Int64))), .second, .val (.long (j4 ^^^ j5)), .second, .unset] [])
    refine go (fun _ => XT.iconstV X717.here hx rfl (4 : Int32) (hb hby at_97) (by decide)) ?_
    show Ends p e below s _ _ _ T717 (mkF m 98 #[iv i0, iv i1, iv i2, iv i3, .val (.long j4), .second, .val (.long j5), .second, iv (0 : Int32), iv xv, iv yv, iv zv, rv a711, .val (.long j4), .second, .val (.long j5), .second, .val (.long (j4 ^^^ (-1 : Int64))), .second, .val (.long (j4 ^^^ j5)), .second, .unset] [(.int (4 : Int32))])
    obtain ⟨T719, h719, k719, X719, e719, E719, A719, s719⟩ := newP X717 hx hZ (hwi hw 57 rfl) e717 (g := (mkF m 98 #[iv i0, iv i1, iv i2, iv i3, .val (.long j4), .second, .val (.long j5), .second, iv (0 : Int32), iv xv, iv yv, iv zv, rv a711, .val (.long j4), .second, .val (.long j5), .second, .val (.long (j4 ^^^ (-1 : Int64))), .second, .val (.long (j4 ^^^ j5)), .second, .unset] [(.int (4 : Int32))])) rfl (hb hby at_98) rfl (by decide) (cap := 4) (by decide) (by decide) (by decide) (by decide)
    have F720 := (Exa.keep A711 K717)
    obtain ⟨a719, g719⟩ : ∃ z : Addr, z = h717.size := ⟨_, rfl⟩
    have n721 : a711 ≠ a719 := fun q => absurd (F720.lt) (by rw [q, g719]; exact Nat.lt_irrefl _)
    have f719 : Z.heap.size ≤ a719 := by rw [g719]; exact (O718).1
    rw [← g719] at A719 s719
    have O722 : Ext Z.heap h719 := xx O718 E719
    have V719 : Arv Z h719 a719 k719 .long (4 : Int32) [(.long (0 : Int64)), (.long (0 : Int64)), (.long (0 : Int64)), (.long (0 : Int64))] (.long 0) := Arv.pad (Arv.new A719 (by decide)) (pad_rep [] _ 4)
    refine go s719 ?_
    show Ends p e below s _ _ _ T719 (mkF m 100 #[iv i0, iv i1, iv i2, iv i3, .val (.long j4), .second, .val (.long j5), .second, iv (0 : Int32), iv xv, iv yv, iv zv, rv a711, .val (.long j4), .second, .val (.long j5), .second, .val (.long (j4 ^^^ (-1 : Int64))), .second, .val (.long (j4 ^^^ j5)), .second, .unset] [(.ref a719)])
    refine go (fun _ => XS.dup X719.here hx rfl (hb hby at_100) rfl rfl) ?_
    refine go (fun _ => XT.iconstV X719.here hx rfl (0 : Int32) (hb hby at_101) (by decide)) ?_
    refine go (fun _ => XT.lload X719.here hx rfl (hb hby at_102) rfl) ?_
    show Ends p e below s _ _ _ T719 (mkF m 104 #[iv i0, iv i1, iv i2, iv i3, .val (.long j4), .second, .val (.long j5), .second, iv (0 : Int32), iv xv, iv yv, iv zv, rv a711, .val (.long j4), .second, .val (.long j5), .second, .val (.long (j4 ^^^ (-1 : Int64))), .second, .val (.long (j4 ^^^ j5)), .second, .unset] [(.long j4), (.int (0 : Int32)), (.ref a719), (.ref a719)])
    obtain ⟨cl723, A723, q723, S723, M723, H723, G723⟩ := id V719
    obtain ⟨T723, h723, X723, e723, W723, s723⟩ := stJ X719 hx hZ e719 A723 (j := (0 : Int32)) (inb_of S723 (by decide)) (g := (mkF m 104 #[iv i0, iv i1, iv i2, iv i3, .val (.long j4), .second, .val (.long j5), .second, iv (0 : Int32), iv xv, iv yv, iv zv, rv a711, .val (.long j4), .second, .val (.long j5), .second, .val (.long (j4 ^^^ (-1 : Int64))), .second, .val (.long (j4 ^^^ j5)), .second, .unset] [(.long j4), (.int (0 : Int32)), (.ref a719), (.ref a719)])) rfl rfl (hb hby at_104)
    have N723 := Fr.snoc X723 N717a f719
    have O724 : Ext Z.heap h723 := xw O722 W723 f719
    have V723 : Arv Z h723 a719 k719 .long (4 : Int32) [(.long j4), (.long (0 : Int64)), (.long (0 : Int64)), (.long (0 : Int64))] (.long 0) := Arv.set A723 q723 S723 M723 H723 G723 rfl W723 0 (by decide) (Nat.le_of_ble_eq_true rfl)
    refine go s723 ?_
    show Ends p e below s _ _ _ T723 (mkF m 105 #[iv i0, iv i1, iv i2, iv i3, .val (.long j4), .second, .val (.long j5), .second, iv (0 : Int32), iv xv, iv yv, iv zv, rv a711, .val (.long j4), .second, .val (.long j5), .second, .val (.long (j4 ^^^ (-1 : Int64))), .second, .val (.long (j4 ^^^ j5)), .second, .unset] [(.ref a719)])
    refine go (fun _ => XS.dup X723.here hx rfl (hb hby at_105) rfl rfl) ?_
    refine go (fun _ => XT.iconstV X723.here hx rfl (1 : Int32) (hb hby at_106) (by decide)) ?_
    refine go (fun _ => XT.lload X723.here hx rfl (hb hby at_107) rfl) ?_
    show Ends p e below s _ _ _ T723 (mkF m 109 #[iv i0, iv i1, iv i2, iv i3, .val (.long j4), .second, .val (.long j5), .second, iv (0 : Int32), iv xv, iv yv, iv zv, rv a711, .val (.long j4), .second, .val (.long j5), .second, .val (.long (j4 ^^^ (-1 : Int64))), .second, .val (.long (j4 ^^^ j5)), .second, .unset] [(.long j5), (.int (1 : Int32)), (.ref a719), (.ref a719)])
    obtain ⟨cl725, A725, q725, S725, M725, H725, G725⟩ := id V723
    obtain ⟨T725, h725, X725, e725, W725, s725⟩ := stJ X723 hx hZ e723 A725 (j := (1 : Int32)) (inb_of S725 (by decide)) (g := (mkF m 109 #[iv i0, iv i1, iv i2, iv i3, .val (.long j4), .second, .val (.long j5), .second, iv (0 : Int32), iv xv, iv yv, iv zv, rv a711, .val (.long j4), .second, .val (.long j5), .second, .val (.long (j4 ^^^ (-1 : Int64))), .second, .val (.long (j4 ^^^ j5)), .second, .unset] [(.long j5), (.int (1 : Int32)), (.ref a719), (.ref a719)])) rfl rfl (hb hby at_109)
    have N725 := Fr.snoc X725 N723 f719
    have O726 : Ext Z.heap h725 := xw O724 W725 f719
    have V725 : Arv Z h725 a719 k719 .long (4 : Int32) [(.long j4), (.long j5), (.long (0 : Int64)), (.long (0 : Int64))] (.long 0) := Arv.set A725 q725 S725 M725 H725 G725 rfl W725 1 (by decide) (Nat.le_of_ble_eq_true rfl)
    refine go s725 ?_
    show Ends p e below s _ _ _ T725 (mkF m 110 #[iv i0, iv i1, iv i2, iv i3, .val (.long j4), .second, .val (.long j5), .second, iv (0 : Int32), iv xv, iv yv, iv zv, rv a711, .val (.long j4), .second, .val (.long j5), .second, .val (.long (j4 ^^^ (-1 : Int64))), .second, .val (.long (j4 ^^^ j5)), .second, .unset] [(.ref a719)])
    refine go (fun _ => XS.dup X725.here hx rfl (hb hby at_110) rfl rfl) ?_
    refine go (fun _ => XT.iconstV X725.here hx rfl (2 : Int32) (hb hby at_111) (by decide)) ?_
    refine go (fun _ => XT.lload X725.here hx rfl (hb hby at_112) rfl) ?_
    show Ends p e below s _ _ _ T725 (mkF m 114 #[iv i0, iv i1, iv i2, iv i3, .val (.long j4), .second, .val (.long j5), .second, iv (0 : Int32), iv xv, iv yv, iv zv, rv a711, .val (.long j4), .second, .val (.long j5), .second, .val (.long (j4 ^^^ (-1 : Int64))), .second, .val (.long (j4 ^^^ j5)), .second, .unset] [(.long (j4 ^^^ (-1 : Int64))), (.int (2 : Int32)), (.ref a719), (.ref a719)])
    obtain ⟨cl727, A727, q727, S727, M727, H727, G727⟩ := id V725
    obtain ⟨T727, h727, X727, e727, W727, s727⟩ := stJ X725 hx hZ e725 A727 (j := (2 : Int32)) (inb_of S727 (by decide)) (g := (mkF m 114 #[iv i0, iv i1, iv i2, iv i3, .val (.long j4), .second, .val (.long j5), .second, iv (0 : Int32), iv xv, iv yv, iv zv, rv a711, .val (.long j4), .second, .val (.long j5), .second, .val (.long (j4 ^^^ (-1 : Int64))), .second, .val (.long (j4 ^^^ j5)), .second, .unset] [(.long (j4 ^^^ (-1 : Int64))), (.int (2 : Int32)), (.ref a719), (.ref a719)])) rfl rfl (hb hby at_114)
    have N727 := Fr.snoc X727 N725 f719
    have O728 : Ext Z.heap h727 := xw O726 W727 f719
    have V727 : Arv Z h727 a719 k719 .long (4 : Int32) [(.long j4), (.long j5), (.long (j4 ^^^ (-1 : Int64))), (.long (0 : Int64))] (.long 0) := Arv.set A727 q727 S727 M727 H727 G727 rfl W727 2 (by decide) (Nat.le_of_ble_eq_true rfl)
    refine go s727 ?_
    show Ends p e below s _ _ _ T727 (mkF m 115 #[iv i0, iv i1, iv i2, iv i3, .val (.long j4), .second, .val (.long j5), .second, iv (0 : Int32), iv xv, iv yv, iv zv, rv a711, .val (.long j4), .second, .val (.long j5), .second, .val (.long (j4 ^^^ (-1 : Int64))), .second, .val (.long (j4 ^^^ j5)), .second, .unset] [(.ref a719)])
    refine go (fun _ => XS.dup X727.here hx rfl (hb hby at_115) rfl rfl) ?_
    refine go (fun _ => XT.iconstV X727.here hx rfl (3 : Int32) (hb hby at_116) (by decide)) ?_
    refine go (fun _ => XT.lload X727.here hx rfl (hb hby at_117) rfl) ?_
    show Ends p e below s _ _ _ T727 (mkF m 119 #[iv i0, iv i1, iv i2, iv i3, .val (.long j4), .second, .val (.long j5), .second, iv (0 : Int32), iv xv, iv yv, iv zv, rv a711, .val (.long j4), .second, .val (.long j5), .second, .val (.long (j4 ^^^ (-1 : Int64))), .second, .val (.long (j4 ^^^ j5)), .second, .unset] [(.long (j4 ^^^ j5)), (.int (3 : Int32)), (.ref a719), (.ref a719)])
    obtain ⟨cl729, A729, q729, S729, M729, H729, G729⟩ := id V727
    obtain ⟨T729, h729, X729, e729, W729, s729⟩ := stJ X727 hx hZ e727 A729 (j := (3 : Int32)) (inb_of S729 (by decide)) (g := (mkF m 119 #[iv i0, iv i1, iv i2, iv i3, .val (.long j4), .second, .val (.long j5), .second, iv (0 : Int32), iv xv, iv yv, iv zv, rv a711, .val (.long j4), .second, .val (.long j5), .second, .val (.long (j4 ^^^ (-1 : Int64))), .second, .val (.long (j4 ^^^ j5)), .second, .unset] [(.long (j4 ^^^ j5)), (.int (3 : Int32)), (.ref a719), (.ref a719)])) rfl rfl (hb hby at_119)
    have N729 := Fr.snoc X729 N727 f719
    have O730 : Ext Z.heap h729 := xw O728 W729 f719
    have V729 : Arv Z h729 a719 k719 .long (4 : Int32) [(.long j4), (.long j5), (.long (j4 ^^^ (-1 : Int64))), (.long (j4 ^^^ j5))] (.long 0) := Arv.set A729 q729 S729 M729 H729 G729 rfl W729 3 (by decide) (Nat.le_of_ble_eq_true rfl)
    refine go s729 ?_
    show Ends p e below s _ _ _ T729 (mkF m 120 #[iv i0, iv i1, iv i2, iv i3, .val (.long j4), .second, .val (.long j5), .second, iv (0 : Int32), iv xv, iv yv, iv zv, rv a711, .val (.long j4), .second, .val (.long j5), .second, .val (.long (j4 ^^^ (-1 : Int64))), .second, .val (.long (j4 ^^^ j5)), .second, .unset] [(.ref a719)])
    refine go (fun _ => XS.astore X729.here hx rfl (hb hby at_120) rfl rfl (l' := #[iv i0, iv i1, iv i2, iv i3, .val (.long j4), .second, .val (.long j5), .second, iv (0 : Int32), iv xv, iv yv, iv zv, rv a711, .val (.long j4), .second, .val (.long j5), .second, .val (.long (j4 ^^^ (-1 : Int64))), .second, .val (.long (j4 ^^^ j5)), .second, rv a719]) rfl) ?_
    refine go (fun _ => XS.aload X729.here hx rfl (hb hby at_122) rfl rfl) ?_
    refine go (fun _ => XS.aload X729.here hx rfl (hb hby at_124) rfl rfl) ?_
    show Ends p e below s _ _ _ T729 (mkF m 126 #[iv i0, iv i1, iv i2, iv i3, .val (.long j4), .second, .val (.long j5), .second, iv (0 : Int32), iv xv, iv yv, iv zv, rv a711, .val (.long j4), .second, .val (.long j5), .second, .val (.long (j4 ^^^ (-1 : Int64))), .second, .val (.long (j4 ^^^ j5)), .second, rv a719] [(.ref a719), (.ref a711)])
    have nI : a711 ≠ aI := (Nat.ne_of_lt (Nat.lt_of_lt_of_le (av_11).lt f711)).symm
    have nW : a711 ≠ aW := (Nat.ne_of_lt (Nat.lt_of_lt_of_le (av_12).lt f711)).symm
    have F731 := (Fld.other W729 (Fld.other W727 (Fld.other W725 (Fld.other W723 (Fld.ext E719 Q717_0) (Or.inl n721)) (Or.inl n721)) (Or.inl n721)) (Or.inl n721))
    have F732 := (Fld.other W729 (Fld.other W727 (Fld.other W725 (Fld.other W723 (Fld.ext E719 Q717_1) (Or.inl n721)) (Or.inl n721)) (Or.inl n721)) (Or.inl n721))
    have F733 := (Fld.other W729 (Fld.other W727 (Fld.other W725 (Fld.other W723 (Fld.ext E719 Q717_2) (Or.inl n721)) (Or.inl n721)) (Or.inl n721)) (Or.inl n721))
    have F734 := (Fld.other W729 (Fld.other W727 (Fld.other W725 (Fld.other W723 (Fld.ext E719 Q717_3) (Or.inl n721)) (Or.inl n721)) (Or.inl n721)) (Or.inl n721))
    have F735 := (Exa.wr W729 (Exa.wr W727 (Exa.wr W725 (Exa.wr W723 (Exa.ext E719 F720)))))
    have VL736 : Arv Z h729 a719 k719 .long (4 : Int32) (own_b (own_f j4 j5 (j4 ^^^ (-1 : Int64)) (j4 ^^^ j5))) (.long 0) := V729
    have naI736 : aI ≠ a719 := Nat.ne_of_lt (Nat.lt_of_lt_of_le (av_11).lt f719)
    have naW736 : aW ≠ a719 := Nat.ne_of_lt (Nat.lt_of_lt_of_le (av_12).lt f719)
    refine cVirt X729 hx hZ hown (by rw [hml]; rfl) e729 (hwi hw 60 rfl) (hwi hw 61 rfl) (hwi hw 63 rfl) (hwi hw 62 rfl) (hwi hw 2 rfl) (hwi hw 64 rfl) (notFace_of_selects (args := #[]) (mvT hZ (hwi hw 63 rfl))) a711 F735 [(.ref a719)] [] rfl (rm_add0_0 hw a711 aI aW k_aI k_aW  a719 k719 (own_f j4 j5 (j4 ^^^ (-1 : Int64)) (j4 ^^^ j5)) _ O730 f711 F735 F731 F732 F733 F734 (Arv.ext av_11 O730) (Arv.ext av_12 O730) nI nW VL736 f719 n721 naI736 naW736 ) (hb hby at_126) rfl (lenOf pd_12 rfl) (by decide) (by decide) (Nat.le_of_ble_eq_true rfl) (by decide) (by decide) ?_
    rintro v737 T737 h737 L737 X737 e737 ⟨rfl, N737, K737, V737⟩
    have N737a := Fr.app N729 N737
    have O738 : Ext Z.heap h737 := xk O730 K737 (allS f719 all0)
    show Ends p e below s _ _ _ T737 (mkF m 129 #[iv i0, iv i1, iv i2, iv i3, .val (.long j4), .second, .val (.long j5), .second, iv (0 : Int32), iv xv, iv yv, iv zv, rv a711, .val (.long j4), .second, .val (.long j5), .second, .val (.long (j4 ^^^ (-1 : Int64))), .second, .val (.long (j4 ^^^ j5)), .second, rv a719] [])
    refine go (fun _ => XS.aload X737.here hx rfl (hb hby at_129) rfl rfl) ?_
    refine go (fun _ => XT.iconstV X737.here hx rfl (0 : Int32) (hb hby at_131) (by decide)) ?_
    show Ends p e below s _ _ _ T737 (mkF m 132 #[iv i0, iv i1, iv i2, iv i3, .val (.long j4), .second, .val (.long j5), .second, iv (0 : Int32), iv xv, iv yv, iv zv, rv a711, .val (.long j4), .second, .val (.long j5), .second, .val (.long (j4 ^^^ (-1 : Int64))), .second, .val (.long (j4 ^^^ j5)), .second, rv a719] [(.int (0 : Int32)), (.ref a719)])
    obtain ⟨cl739, A739, -, S739, M739, H739, -⟩ := id V737
    have B739 := inb_of S739 (j := (0 : Int32)) (by decide)
    refine go (fun _ => X737.laload hx (j := (0 : Int32)) (v := (.long ((own_f j4 j5 (j4 ^^^ (-1 : Int64)) (j4 ^^^ j5)) 0))) (by rw [e737]; exact A739.1) (State.isArrayOf_alike hZ.alike A739.2.1) A739.2.2 B739 (H739.at B739 rfl) (g := (mkF m 132 #[iv i0, iv i1, iv i2, iv i3, .val (.long j4), .second, .val (.long j5), .second, iv (0 : Int32), iv xv, iv yv, iv zv, rv a711, .val (.long j4), .second, .val (.long j5), .second, .val (.long (j4 ^^^ (-1 : Int64))), .second, .val (.long (j4 ^^^ j5)), .second, rv a719] [(.int (0 : Int32)), (.ref a719)])) rfl rfl (hb hby at_132) _) ?_
    show Ends p e below s _ _ _ T737 (mkF m 133 #[iv i0, iv i1, iv i2, iv i3, .val (.long j4), .second, .val (.long j5), .second, iv (0 : Int32), iv xv, iv yv, iv zv, rv a711, .val (.long j4), .second, .val (.long j5), .second, .val (.long (j4 ^^^ (-1 : Int64))), .second, .val (.long (j4 ^^^ j5)), .second, rv a719] [(.long ((own_f j4 j5 (j4 ^^^ (-1 : Int64)) (j4 ^^^ j5)) 0))])
    refine go (fun _ => XT.iconstV X737.here hx rfl (0 : Int32) (hb hby at_133) (by decide)) ?_
    refine go (fun _ => XT.lload X737.here hx rfl (hb hby at_134) rfl) ?_
    refine go (fun _ => XS.iload X737.here hx rfl (hb hby at_136) rfl) ?_
    refine go (fun _ => XS.iload X737.here hx rfl (hb hby at_138) rfl) ?_
    refine go (fun _ => XS.iload X737.here hx rfl (hb hby at_140) rfl) ?_
    refine go (fun _ => XS.iload X737.here hx rfl (hb hby at_142) rfl) ?_
    show Ends p e below s _ _ _ T737 (mkF m 144 #[iv i0, iv i1, iv i2, iv i3, .val (.long j4), .second, .val (.long j5), .second, iv (0 : Int32), iv xv, iv yv, iv zv, rv a711, .val (.long j4), .second, .val (.long j5), .second, .val (.long (j4 ^^^ (-1 : Int64))), .second, .val (.long (j4 ^^^ j5)), .second, rv a719] [(.int zv), (.int yv), (.int xv), (.int (0 : Int32)), (.long j4), (.int (0 : Int32)), (.long ((own_f j4 j5 (j4 ^^^ (-1 : Int64)) (j4 ^^^ j5)) 0))])
    refine cStat X737 hx hZ hown (by rw [hml]; rfl) e737 (hwi hw 65 rfl) (hwi hw 66 rfl) (hwi hw 67 rfl) (hwi hw 68 rfl) [(.int (0 : Int32)), (.long j4), (.int (0 : Int32)), (.int xv), (.int yv), (.int zv)] [(.long ((own_f j4 j5 (j4 ^^^ (-1 : Int64)) (j4 ^^^ j5)) 0))] rfl (rm_exp0 hw (0 : Int32) j4 xv yv zv _) (hb hby at_144) rfl (lenOf pd_13 rfl) (by decide) (by decide) (Nat.le_of_ble_eq_true rfl) (by decide) (by decide) ?_
    rintro v740 T740 h740 L740 X740 e740 ⟨rfl, N740, rfl⟩
    have N740a := Fr.app N737a N740
    show Ends p e below s _ _ _ T740 (mkF m 147 #[iv i0, iv i1, iv i2, iv i3, .val (.long j4), .second, .val (.long j5), .second, iv (0 : Int32), iv xv, iv yv, iv zv, rv a711, .val (.long j4), .second, .val (.long j5), .second, .val (.long (j4 ^^^ (-1 : Int64))), .second, .val (.long (j4 ^^^ j5)), .second, rv a719] [(.long j4), (.long ((own_f j4 j5 (j4 ^^^ (-1 : Int64)) (j4 ^^^ j5)) 0))])
    refine go (fun _ => XT.lcmp X740.here hx rfl (hb hby at_147) rfl) ?_
    show Ends p e below s _ _ _ T740 (mkF m 148 #[iv i0, iv i1, iv i2, iv i3, .val (.long j4), .second, .val (.long j5), .second, iv (0 : Int32), iv xv, iv yv, iv zv, rv a711, .val (.long j4), .second, .val (.long j5), .second, .val (.long (j4 ^^^ (-1 : Int64))), .second, .val (.long (j4 ^^^ j5)), .second, rv a719] [(.int (XT.cmpL ((own_f j4 j5 (j4 ^^^ (-1 : Int64)) (j4 ^^^ j5)) 0) j4))])
    have q741 : ((own_f j4 j5 (j4 ^^^ (-1 : Int64)) (j4 ^^^ j5)) 0) = j4 := rfl
    refine go (fun _ => XS.ifNo X740.here hx rfl (hb hby at_148) rfl (XT.ll_ne_f q741)) ?_
    show Ends p e below s _ _ _ T740 (mkF m 151 #[iv i0, iv i1, iv i2, iv i3, .val (.long j4), .second, .val (.long j5), .second, iv (0 : Int32), iv xv, iv yv, iv zv, rv a711, .val (.long j4), .second, .val (.long j5), .second, .val (.long (j4 ^^^ (-1 : Int64))), .second, .val (.long (j4 ^^^ j5)), .second, rv a719] [])
    refine go (fun _ => XS.aload X740.here hx rfl (hb hby at_151) rfl rfl) ?_
    refine go (fun _ => XT.iconstV X740.here hx rfl (1 : Int32) (hb hby at_153) (by decide)) ?_
    show Ends p e below s _ _ _ T740 (mkF m 154 #[iv i0, iv i1, iv i2, iv i3, .val (.long j4), .second, .val (.long j5), .second, iv (0 : Int32), iv xv, iv yv, iv zv, rv a711, .val (.long j4), .second, .val (.long j5), .second, .val (.long (j4 ^^^ (-1 : Int64))), .second, .val (.long (j4 ^^^ j5)), .second, rv a719] [(.int (1 : Int32)), (.ref a719)])
    obtain ⟨cl742, A742, -, S742, M742, H742, -⟩ := id V737
    have B742 := inb_of S742 (j := (1 : Int32)) (by decide)
    refine go (fun _ => X740.laload hx (j := (1 : Int32)) (v := (.long ((own_f j4 j5 (j4 ^^^ (-1 : Int64)) (j4 ^^^ j5)) 1))) (by rw [e740]; exact A742.1) (State.isArrayOf_alike hZ.alike A742.2.1) A742.2.2 B742 (H742.at B742 rfl) (g := (mkF m 154 #[iv i0, iv i1, iv i2, iv i3, .val (.long j4), .second, .val (.long j5), .second, iv (0 : Int32), iv xv, iv yv, iv zv, rv a711, .val (.long j4), .second, .val (.long j5), .second, .val (.long (j4 ^^^ (-1 : Int64))), .second, .val (.long (j4 ^^^ j5)), .second, rv a719] [(.int (1 : Int32)), (.ref a719)])) rfl rfl (hb hby at_154) _) ?_
    show Ends p e below s _ _ _ T740 (mkF m 155 #[iv i0, iv i1, iv i2, iv i3, .val (.long j4), .second, .val (.long j5), .second, iv (0 : Int32), iv xv, iv yv, iv zv, rv a711, .val (.long j4), .second, .val (.long j5), .second, .val (.long (j4 ^^^ (-1 : Int64))), .second, .val (.long (j4 ^^^ j5)), .second, rv a719] [(.long ((own_f j4 j5 (j4 ^^^ (-1 : Int64)) (j4 ^^^ j5)) 1))])
    refine go (fun _ => XT.iconstV X740.here hx rfl (1 : Int32) (hb hby at_155) (by decide)) ?_
    refine go (fun _ => XT.lload X740.here hx rfl (hb hby at_156) rfl) ?_
    refine go (fun _ => XS.iload X740.here hx rfl (hb hby at_158) rfl) ?_
    refine go (fun _ => XS.iload X740.here hx rfl (hb hby at_160) rfl) ?_
    refine go (fun _ => XS.iload X740.here hx rfl (hb hby at_162) rfl) ?_
    refine go (fun _ => XS.iload X740.here hx rfl (hb hby at_164) rfl) ?_
    show Ends p e below s _ _ _ T740 (mkF m 166 #[iv i0, iv i1, iv i2, iv i3, .val (.long j4), .second, .val (.long j5), .second, iv (0 : Int32), iv xv, iv yv, iv zv, rv a711, .val (.long j4), .second, .val (.long j5), .second, .val (.long (j4 ^^^ (-1 : Int64))), .second, .val (.long (j4 ^^^ j5)), .second, rv a719] [(.int zv), (.int yv), (.int xv), (.int (0 : Int32)), (.long j5), (.int (1 : Int32)), (.long ((own_f j4 j5 (j4 ^^^ (-1 : Int64)) (j4 ^^^ j5)) 1))])
    refine cStat X740 hx hZ hown (by rw [hml]; rfl) e740 (hwi hw 65 rfl) (hwi hw 66 rfl) (hwi hw 67 rfl) (hwi hw 68 rfl) [(.int (1 : Int32)), (.long j5), (.int (0 : Int32)), (.int xv), (.int yv), (.int zv)] [(.long ((own_f j4 j5 (j4 ^^^ (-1 : Int64)) (j4 ^^^ j5)) 1))] rfl (rm_exp0 hw (1 : Int32) j5 xv yv zv _) (hb hby at_166) rfl (lenOf pd_13 rfl) (by decide) (by decide) (Nat.le_of_ble_eq_true rfl) (by decide) (by decide) ?_
    rintro v743 T743 h743 L743 X743 e743 ⟨rfl, N743, rfl⟩
    have N743a := Fr.app N740a N743
    show Ends p e below s _ _ _ T743 (mkF m 169 #[iv i0, iv i1, iv i2, iv i3, .val (.long j4), .second, .val (.long j5), .second, iv (0 : Int32), iv xv, iv yv, iv zv, rv a711, .val (.long j4), .second, .val (.long j5), .second, .val (.long (j4 ^^^ (-1 : Int64))), .second, .val (.long (j4 ^^^ j5)), .second, rv a719] [(.long j5), (.long ((own_f j4 j5 (j4 ^^^ (-1 : Int64)) (j4 ^^^ j5)) 1))])
    refine go (fun _ => XT.lcmp X743.here hx rfl (hb hby at_169) rfl) ?_
    show Ends p e below s _ _ _ T743 (mkF m 170 #[iv i0, iv i1, iv i2, iv i3, .val (.long j4), .second, .val (.long j5), .second, iv (0 : Int32), iv xv, iv yv, iv zv, rv a711, .val (.long j4), .second, .val (.long j5), .second, .val (.long (j4 ^^^ (-1 : Int64))), .second, .val (.long (j4 ^^^ j5)), .second, rv a719] [(.int (XT.cmpL ((own_f j4 j5 (j4 ^^^ (-1 : Int64)) (j4 ^^^ j5)) 1) j5))])
    have q744 : ((own_f j4 j5 (j4 ^^^ (-1 : Int64)) (j4 ^^^ j5)) 1) = j5 := rfl
    refine go (fun _ => XS.ifNo X743.here hx rfl (hb hby at_170) rfl (XT.ll_ne_f q744)) ?_
    show Ends p e below s _ _ _ T743 (mkF m 173 #[iv i0, iv i1, iv i2, iv i3, .val (.long j4), .second, .val (.long j5), .second, iv (0 : Int32), iv xv, iv yv, iv zv, rv a711, .val (.long j4), .second, .val (.long j5), .second, .val (.long (j4 ^^^ (-1 : Int64))), .second, .val (.long (j4 ^^^ j5)), .second, rv a719] [])
    refine go (fun _ => XS.aload X743.here hx rfl (hb hby at_173) rfl rfl) ?_
    refine go (fun _ => XT.iconstV X743.here hx rfl (2 : Int32) (hb hby at_175) (by decide)) ?_
    show Ends p e below s _ _ _ T743 (mkF m 176 #[iv i0, iv i1, iv i2, iv i3, .val (.long j4), .second, .val (.long j5), .second, iv (0 : Int32), iv xv, iv yv, iv zv, rv a711, .val (.long j4), .second, .val (.long j5), .second, .val (.long (j4 ^^^ (-1 : Int64))), .second, .val (.long (j4 ^^^ j5)), .second, rv a719] [(.int (2 : Int32)), (.ref a719)])
    obtain ⟨cl745, A745, -, S745, M745, H745, -⟩ := id V737
    have B745 := inb_of S745 (j := (2 : Int32)) (by decide)
    refine go (fun _ => X743.laload hx (j := (2 : Int32)) (v := (.long ((own_f j4 j5 (j4 ^^^ (-1 : Int64)) (j4 ^^^ j5)) 2))) (by rw [e743]; exact A745.1) (State.isArrayOf_alike hZ.alike A745.2.1) A745.2.2 B745 (H745.at B745 rfl) (g := (mkF m 176 #[iv i0, iv i1, iv i2, iv i3, .val (.long j4), .second, .val (.long j5), .second, iv (0 : Int32), iv xv, iv yv, iv zv, rv a711, .val (.long j4), .second, .val (.long j5), .second, .val (.long (j4 ^^^ (-1 : Int64))), .second, .val (.long (j4 ^^^ j5)), .second, rv a719] [(.int (2 : Int32)), (.ref a719)])) rfl rfl (hb hby at_176) _) ?_
    show Ends p e below s _ _ _ T743 (mkF m 177 #[iv i0, iv i1, iv i2, iv i3, .val (.long j4), .second, .val (.long j5), .second, iv (0 : Int32), iv xv, iv yv, iv zv, rv a711, .val (.long j4), .second, .val (.long j5), .second, .val (.long (j4 ^^^ (-1 : Int64))), .second, .val (.long (j4 ^^^ j5)), .second, rv a719] [(.long ((own_f j4 j5 (j4 ^^^ (-1 : Int64)) (j4 ^^^ j5)) 2))])
    refine go (fun _ => XT.iconstV X743.here hx rfl (2 : Int32) (hb hby at_177) (by decide)) ?_
    refine go (fun _ => XT.lload X743.here hx rfl (hb hby at_178) rfl) ?_
    refine go (fun _ => XS.iload X743.here hx rfl (hb hby at_180) rfl) ?_
    refine go (fun _ => XS.iload X743.here hx rfl (hb hby at_182) rfl) ?_
    refine go (fun _ => XS.iload X743.here hx rfl (hb hby at_184) rfl) ?_
    refine go (fun _ => XS.iload X743.here hx rfl (hb hby at_186) rfl) ?_
    show Ends p e below s _ _ _ T743 (mkF m 188 #[iv i0, iv i1, iv i2, iv i3, .val (.long j4), .second, .val (.long j5), .second, iv (0 : Int32), iv xv, iv yv, iv zv, rv a711, .val (.long j4), .second, .val (.long j5), .second, .val (.long (j4 ^^^ (-1 : Int64))), .second, .val (.long (j4 ^^^ j5)), .second, rv a719] [(.int zv), (.int yv), (.int xv), (.int (0 : Int32)), (.long (j4 ^^^ (-1 : Int64))), (.int (2 : Int32)), (.long ((own_f j4 j5 (j4 ^^^ (-1 : Int64)) (j4 ^^^ j5)) 2))])
    refine cStat X743 hx hZ hown (by rw [hml]; rfl) e743 (hwi hw 65 rfl) (hwi hw 66 rfl) (hwi hw 67 rfl) (hwi hw 68 rfl) [(.int (2 : Int32)), (.long (j4 ^^^ (-1 : Int64))), (.int (0 : Int32)), (.int xv), (.int yv), (.int zv)] [(.long ((own_f j4 j5 (j4 ^^^ (-1 : Int64)) (j4 ^^^ j5)) 2))] rfl (rm_exp0 hw (2 : Int32) (j4 ^^^ (-1 : Int64)) xv yv zv _) (hb hby at_188) rfl (lenOf pd_13 rfl) (by decide) (by decide) (Nat.le_of_ble_eq_true rfl) (by decide) (by decide) ?_
    rintro v746 T746 h746 L746 X746 e746 ⟨rfl, N746, rfl⟩
    have N746a := Fr.app N743a N746
    show Ends p e below s _ _ _ T746 (mkF m 191 #[iv i0, iv i1, iv i2, iv i3, .val (.long j4), .second, .val (.long j5), .second, iv (0 : Int32), iv xv, iv yv, iv zv, rv a711, .val (.long j4), .second, .val (.long j5), .second, .val (.long (j4 ^^^ (-1 : Int64))), .second, .val (.long (j4 ^^^ j5)), .second, rv a719] [(.long (j4 ^^^ (-1 : Int64))), (.long ((own_f j4 j5 (j4 ^^^ (-1 : Int64)) (j4 ^^^ j5)) 2))])
    refine go (fun _ => XT.lcmp X746.here hx rfl (hb hby at_191) rfl) ?_
    show Ends p e below s _ _ _ T746 (mkF m 192 #[iv i0, iv i1, iv i2, iv i3, .val (.long j4), .second, .val (.long j5), .second, iv (0 : Int32), iv xv, iv yv, iv zv, rv a711, .val (.long j4), .second, .val (.long j5), .second, .val (.long (j4 ^^^ (-1 : Int64))), .second, .val (.long (j4 ^^^ j5)), .second, rv a719] [(.int (XT.cmpL ((own_f j4 j5 (j4 ^^^ (-1 : Int64)) (j4 ^^^ j5)) 2) (j4 ^^^ (-1 : Int64))))])
    have q747 : ((own_f j4 j5 (j4 ^^^ (-1 : Int64)) (j4 ^^^ j5)) 2) = (j4 ^^^ (-1 : Int64)) := rfl
    refine go (fun _ => XS.ifNo X746.here hx rfl (hb hby at_192) rfl (XT.ll_ne_f q747)) ?_
    show Ends p e below s _ _ _ T746 (mkF m 195 #[iv i0, iv i1, iv i2, iv i3, .val (.long j4), .second, .val (.long j5), .second, iv (0 : Int32), iv xv, iv yv, iv zv, rv a711, .val (.long j4), .second, .val (.long j5), .second, .val (.long (j4 ^^^ (-1 : Int64))), .second, .val (.long (j4 ^^^ j5)), .second, rv a719] [])
    refine go (fun _ => XS.aload X746.here hx rfl (hb hby at_195) rfl rfl) ?_
    refine go (fun _ => XT.iconstV X746.here hx rfl (3 : Int32) (hb hby at_197) (by decide)) ?_
    show Ends p e below s _ _ _ T746 (mkF m 198 #[iv i0, iv i1, iv i2, iv i3, .val (.long j4), .second, .val (.long j5), .second, iv (0 : Int32), iv xv, iv yv, iv zv, rv a711, .val (.long j4), .second, .val (.long j5), .second, .val (.long (j4 ^^^ (-1 : Int64))), .second, .val (.long (j4 ^^^ j5)), .second, rv a719] [(.int (3 : Int32)), (.ref a719)])
    obtain ⟨cl748, A748, -, S748, M748, H748, -⟩ := id V737
    have B748 := inb_of S748 (j := (3 : Int32)) (by decide)
    refine go (fun _ => X746.laload hx (j := (3 : Int32)) (v := (.long ((own_f j4 j5 (j4 ^^^ (-1 : Int64)) (j4 ^^^ j5)) 3))) (by rw [e746]; exact A748.1) (State.isArrayOf_alike hZ.alike A748.2.1) A748.2.2 B748 (H748.at B748 rfl) (g := (mkF m 198 #[iv i0, iv i1, iv i2, iv i3, .val (.long j4), .second, .val (.long j5), .second, iv (0 : Int32), iv xv, iv yv, iv zv, rv a711, .val (.long j4), .second, .val (.long j5), .second, .val (.long (j4 ^^^ (-1 : Int64))), .second, .val (.long (j4 ^^^ j5)), .second, rv a719] [(.int (3 : Int32)), (.ref a719)])) rfl rfl (hb hby at_198) _) ?_
    show Ends p e below s _ _ _ T746 (mkF m 199 #[iv i0, iv i1, iv i2, iv i3, .val (.long j4), .second, .val (.long j5), .second, iv (0 : Int32), iv xv, iv yv, iv zv, rv a711, .val (.long j4), .second, .val (.long j5), .second, .val (.long (j4 ^^^ (-1 : Int64))), .second, .val (.long (j4 ^^^ j5)), .second, rv a719] [(.long ((own_f j4 j5 (j4 ^^^ (-1 : Int64)) (j4 ^^^ j5)) 3))])
    refine go (fun _ => XT.iconstV X746.here hx rfl (3 : Int32) (hb hby at_199) (by decide)) ?_
    refine go (fun _ => XT.lload X746.here hx rfl (hb hby at_200) rfl) ?_
    refine go (fun _ => XS.iload X746.here hx rfl (hb hby at_202) rfl) ?_
    refine go (fun _ => XS.iload X746.here hx rfl (hb hby at_204) rfl) ?_
    refine go (fun _ => XS.iload X746.here hx rfl (hb hby at_206) rfl) ?_
    refine go (fun _ => XS.iload X746.here hx rfl (hb hby at_208) rfl) ?_
    show Ends p e below s _ _ _ T746 (mkF m 210 #[iv i0, iv i1, iv i2, iv i3, .val (.long j4), .second, .val (.long j5), .second, iv (0 : Int32), iv xv, iv yv, iv zv, rv a711, .val (.long j4), .second, .val (.long j5), .second, .val (.long (j4 ^^^ (-1 : Int64))), .second, .val (.long (j4 ^^^ j5)), .second, rv a719] [(.int zv), (.int yv), (.int xv), (.int (0 : Int32)), (.long (j4 ^^^ j5)), (.int (3 : Int32)), (.long ((own_f j4 j5 (j4 ^^^ (-1 : Int64)) (j4 ^^^ j5)) 3))])
    refine cStat X746 hx hZ hown (by rw [hml]; rfl) e746 (hwi hw 65 rfl) (hwi hw 66 rfl) (hwi hw 67 rfl) (hwi hw 68 rfl) [(.int (3 : Int32)), (.long (j4 ^^^ j5)), (.int (0 : Int32)), (.int xv), (.int yv), (.int zv)] [(.long ((own_f j4 j5 (j4 ^^^ (-1 : Int64)) (j4 ^^^ j5)) 3))] rfl (rm_exp0 hw (3 : Int32) (j4 ^^^ j5) xv yv zv _) (hb hby at_210) rfl (lenOf pd_13 rfl) (by decide) (by decide) (Nat.le_of_ble_eq_true rfl) (by decide) (by decide) ?_
    rintro v749 T749 h749 L749 X749 e749 ⟨rfl, N749, rfl⟩
    have N749a := Fr.app N746a N749
    show Ends p e below s _ _ _ T749 (mkF m 213 #[iv i0, iv i1, iv i2, iv i3, .val (.long j4), .second, .val (.long j5), .second, iv (0 : Int32), iv xv, iv yv, iv zv, rv a711, .val (.long j4), .second, .val (.long j5), .second, .val (.long (j4 ^^^ (-1 : Int64))), .second, .val (.long (j4 ^^^ j5)), .second, rv a719] [(.long (j4 ^^^ j5)), (.long ((own_f j4 j5 (j4 ^^^ (-1 : Int64)) (j4 ^^^ j5)) 3))])
    refine go (fun _ => XT.lcmp X749.here hx rfl (hb hby at_213) rfl) ?_
    show Ends p e below s _ _ _ T749 (mkF m 214 #[iv i0, iv i1, iv i2, iv i3, .val (.long j4), .second, .val (.long j5), .second, iv (0 : Int32), iv xv, iv yv, iv zv, rv a711, .val (.long j4), .second, .val (.long j5), .second, .val (.long (j4 ^^^ (-1 : Int64))), .second, .val (.long (j4 ^^^ j5)), .second, rv a719] [(.int (XT.cmpL ((own_f j4 j5 (j4 ^^^ (-1 : Int64)) (j4 ^^^ j5)) 3) (j4 ^^^ j5)))])
    have q750 : ((own_f j4 j5 (j4 ^^^ (-1 : Int64)) (j4 ^^^ j5)) 3) = (j4 ^^^ j5) := rfl
    refine go (fun _ => XS.ifNo X749.here hx rfl (hb hby at_214) rfl (XT.ll_ne_f q750)) ?_
    show Ends p e below s _ _ _ T749 (mkF m 217 #[iv i0, iv i1, iv i2, iv i3, .val (.long j4), .second, .val (.long j5), .second, iv (0 : Int32), iv xv, iv yv, iv zv, rv a711, .val (.long j4), .second, .val (.long j5), .second, .val (.long (j4 ^^^ (-1 : Int64))), .second, .val (.long (j4 ^^^ j5)), .second, rv a719] [])
    refine go (fun _ => XT.iconstV X749.here hx rfl (1 : Int32) (hb hby at_217) (by decide)) ?_
    refine go (fun _ => XS.goto X749.here hx rfl (pc0 := 218) (pc' := 222) rfl (hb hby at_218) (by decide) (by decide)) ?_
    show Ends p e below s _ _ _ T749 (mkF m 222 #[iv i0, iv i1, iv i2, iv i3, .val (.long j4), .second, .val (.long j5), .second, iv (0 : Int32), iv xv, iv yv, iv zv, rv a711, .val (.long j4), .second, .val (.long j5), .second, .val (.long (j4 ^^^ (-1 : Int64))), .second, .val (.long (j4 ^^^ j5)), .second, rv a719] [(.int (1 : Int32))])
    exact endN X749 hx hlk hret (by simp) (hb hby at_222) e749 ⟨rfl, N749a⟩ (by decide) (by decide)
  · rw [q]
    show Ends p e below s _ _ _ T0 (mkF m 3 #[iv i0, iv i1, iv i2, iv i3, .val (.long j4), .second, .val (.long j5), .second, .unset, .unset, .unset, .unset, .unset, .unset, .unset, .unset, .unset, .unset, .unset, .unset, .unset, .unset] [(.int (1 : Int32))])
    refine go (fun _ => XS.istore X0.here hx rfl (hb hby at_3) rfl (l' := #[iv i0, iv i1, iv i2, iv i3, .val (.long j4), .second, .val (.long j5), .second, iv (1 : Int32), .unset, .unset, .unset, .unset, .unset, .unset, .unset, .unset, .unset, .unset, .unset, .unset, .unset]) rfl) ?_
    refine go (fun _ => XS.iloadN X0.here hx rfl (hb hby at_5) rfl) ?_
    refine go (fun _ => XT.sipushV X0.here hx rfl (255 : Int32) (hb hby at_6) (by decide)) ?_
    refine go (fun _ => XS.iand X0.here hx rfl (hb hby at_9) rfl) ?_
    show Ends p e below s _ _ _ T0 (mkF m 10 #[iv i0, iv i1, iv i2, iv i3, .val (.long j4), .second, .val (.long j5), .second, iv (1 : Int32), .unset, .unset, .unset, .unset, .unset, .unset, .unset, .unset, .unset, .unset, .unset, .unset, .unset] [(.int (i0 &&& (255 : Int32)))])
    obtain ⟨xv, hxv⟩ : ∃ z : Int32, z = (i0 &&& (255 : Int32)) := ⟨_, rfl⟩
    rw [← hxv]
    show Ends p e below s _ _ _ T0 (mkF m 10 #[iv i0, iv i1, iv i2, iv i3, .val (.long j4), .second, .val (.long j5), .second, iv (1 : Int32), .unset, .unset, .unset, .unset, .unset, .unset, .unset, .unset, .unset, .unset, .unset, .unset, .unset] [(.int xv)])
    refine go (fun _ => XS.istore X0.here hx rfl (hb hby at_10) rfl (l' := #[iv i0, iv i1, iv i2, iv i3, .val (.long j4), .second, .val (.long j5), .second, iv (1 : Int32), iv xv, .unset, .unset, .unset, .unset, .unset, .unset, .unset, .unset, .unset, .unset, .unset, .unset]) rfl) ?_
    refine go (fun _ => XS.iloadN X0.here hx rfl (hb hby at_12) rfl) ?_
    refine go (fun _ => XT.sipushV X0.here hx rfl (255 : Int32) (hb hby at_13) (by decide)) ?_
    refine go (fun _ => XS.iand X0.here hx rfl (hb hby at_16) rfl) ?_
    show Ends p e below s _ _ _ T0 (mkF m 17 #[iv i0, iv i1, iv i2, iv i3, .val (.long j4), .second, .val (.long j5), .second, iv (1 : Int32), iv xv, .unset, .unset, .unset, .unset, .unset, .unset, .unset, .unset, .unset, .unset, .unset, .unset] [(.int (i1 &&& (255 : Int32)))])
    obtain ⟨yv, hyv⟩ : ∃ z : Int32, z = (i1 &&& (255 : Int32)) := ⟨_, rfl⟩
    rw [← hyv]
    show Ends p e below s _ _ _ T0 (mkF m 17 #[iv i0, iv i1, iv i2, iv i3, .val (.long j4), .second, .val (.long j5), .second, iv (1 : Int32), iv xv, .unset, .unset, .unset, .unset, .unset, .unset, .unset, .unset, .unset, .unset, .unset, .unset] [(.int yv)])
    refine go (fun _ => XS.istore X0.here hx rfl (hb hby at_17) rfl (l' := #[iv i0, iv i1, iv i2, iv i3, .val (.long j4), .second, .val (.long j5), .second, iv (1 : Int32), iv xv, iv yv, .unset, .unset, .unset, .unset, .unset, .unset, .unset, .unset, .unset, .unset, .unset]) rfl) ?_
    refine go (fun _ => XS.iloadN X0.here hx rfl (hb hby at_19) rfl) ?_
    refine go (fun _ => XT.sipushV X0.here hx rfl (255 : Int32) (hb hby at_20) (by decide)) ?_
    refine go (fun _ => XS.iand X0.here hx rfl (hb hby at_23) rfl) ?_
    show Ends p e below s _ _ _ T0 (mkF m 24 #[iv i0, iv i1, iv i2, iv i3, .val (.long j4), .second, .val (.long j5), .second, iv (1 : Int32), iv xv, iv yv, .unset, .unset, .unset, .unset, .unset, .unset, .unset, .unset, .unset, .unset, .unset] [(.int (i2 &&& (255 : Int32)))])
    obtain ⟨zv, hzv⟩ : ∃ z : Int32, z = (i2 &&& (255 : Int32)) := ⟨_, rfl⟩
    rw [← hzv]
    show Ends p e below s _ _ _ T0 (mkF m 24 #[iv i0, iv i1, iv i2, iv i3, .val (.long j4), .second, .val (.long j5), .second, iv (1 : Int32), iv xv, iv yv, .unset, .unset, .unset, .unset, .unset, .unset, .unset, .unset, .unset, .unset, .unset] [(.int zv)])
    refine go (fun _ => XS.istore X0.here hx rfl (hb hby at_24) rfl (l' := #[iv i0, iv i1, iv i2, iv i3, .val (.long j4), .second, .val (.long j5), .second, iv (1 : Int32), iv xv, iv yv, iv zv, .unset, .unset, .unset, .unset, .unset, .unset, .unset, .unset, .unset, .unset]) rfl) ?_
    show Ends p e below s _ _ _ T0 (mkF m 26 #[iv i0, iv i1, iv i2, iv i3, .val (.long j4), .second, .val (.long j5), .second, iv (1 : Int32), iv xv, iv yv, iv zv, .unset, .unset, .unset, .unset, .unset, .unset, .unset, .unset, .unset, .unset] [])
    obtain ⟨T751, h751, X751, e751, E751, A751, D751, U751, s751⟩ := newO X0 hx hZ hown (hwi hw 0 rfl) (hwi hw 1 rfl) (hwi hw 2 rfl) e0 (g := (mkF m 26 #[iv i0, iv i1, iv i2, iv i3, .val (.long j4), .second, .val (.long j5), .second, iv (1 : Int32), iv xv, iv yv, iv zv, .unset, .unset, .unset, .unset, .unset, .unset, .unset, .unset, .unset, .unset] [])) rfl (hb hby at_26) (by decide) (by decide)
    obtain ⟨a751, g751⟩ : ∃ z : Addr, z = h0.size := ⟨_, rfl⟩
    have f751 : Z.heap.size ≤ a751 := by rw [g751]; exact (O0).1
    rw [← g751] at A751 D751 U751 s751
    have O752 : Ext Z.heap h751 := xx O0 E751
    refine go s751 ?_
    show Ends p e below s _ _ _ T751 (mkF m 29 #[iv i0, iv i1, iv i2, iv i3, .val (.long j4), .second, .val (.long j5), .second, iv (1 : Int32), iv xv, iv yv, iv zv, .unset, .unset, .unset, .unset, .unset, .unset, .unset, .unset, .unset, .unset] [(.ref a751)])
    refine go (fun _ => XS.dup X751.here hx rfl (hb hby at_29) rfl rfl) ?_
    show Ends p e below s _ _ _ T751 (mkF m 30 #[iv i0, iv i1, iv i2, iv i3, .val (.long j4), .second, .val (.long j5), .second, iv (1 : Int32), iv xv, iv yv, iv zv, .unset, .unset, .unset, .unset, .unset, .unset, .unset, .unset, .unset, .unset] [(.ref a751), (.ref a751)])
    have F753 := (D751 (Or.inl (hwi hw 12 rfl)) (ty := (.array .int)) (by decide))
    have F754 := (D751 (Or.inl (hwi hw 16 rfl)) (ty := (.array .long)) (by decide))
    have F755 := (D751 (Or.inl (hwi hw 29 rfl)) (ty := .int) (by decide))
    have F756 := (D751 (Or.inl (hwi hw 27 rfl)) (ty := .int) (by decide))
    refine cInit X751 hx hZ hown (by rw [hml]; rfl) e751 (hwi hw 3 rfl) (hwi hw 4 rfl) (hwi hw 2 rfl) (hwi hw 5 rfl) a751 [] [(.ref a751)] rfl (rm_sbinit hw a751 aI aW _ O752 f751 A751 F753 F754 F755 F756 ft_2 ft_7) (hb hby at_30) rfl (lenOf pd_11 rfl) rfl (by decide) (by decide) (Nat.le_of_ble_eq_true rfl) (by decide) (by decide) ?_
    rintro v757 T757 h757 L757 X757 e757 ⟨rfl, N757, K757, Q757_0, Q757_1, Q757_2, Q757_3⟩
    have N757a := Fr.app (Fr.nil _) N757
    have O758 : Ext Z.heap h757 := xk O752 K757 (allS f751 all0)
    show Ends p e below s _ _ _ T757 (mkF m 33 #[iv i0, iv i1, iv i2, iv i3, .val (.long j4), .second, .val (.long j5), .second, iv (1 : Int32), iv xv, iv yv, iv zv, .unset, .unset, .unset, .unset, .unset, .unset, .unset, .unset, .unset, .unset] [(.ref a751)])
    refine go (fun _ => XS.astore X757.here hx rfl (hb hby at_33) rfl rfl (l' := #[iv i0, iv i1, iv i2, iv i3, .val (.long j4), .second, .val (.long j5), .second, iv (1 : Int32), iv xv, iv yv, iv zv, rv a751, .unset, .unset, .unset, .unset, .unset, .unset, .unset, .unset, .unset]) rfl) ?_
    show Ends p e below s _ _ _ T757 (mkF m 35 #[iv i0, iv i1, iv i2, iv i3, .val (.long j4), .second, .val (.long j5), .second, iv (1 : Int32), iv xv, iv yv, iv zv, rv a751, .unset, .unset, .unset, .unset, .unset, .unset, .unset, .unset, .unset] [])
    have J1_1_0 : ∀ (TJ : State) (hJ : Heap) (LJ : List Loc) (aiJ awJ : Addr) (kiJ kwJ : ClassId) (ij0 : Int32) (wj0 : Int64) (XJ : Stand p l e room_1 s m #[(.int i0), (.int i1), (.int i2), (.int i3), (.long j4), (.long j5)] below meth c TJ LJ 8 64) (eJ : TJ.heap = hJ) (OJ : Ext Z.heap hJ) (NJ : Fr Z.heap.size LJ) (EJ : Exa Z hJ a751 "com/example/libtbox/libtbox/core/SparseBitSet") (PJ0 : Fld Z hJ a751 "com/example/libtbox/libtbox/core/SparseBitSet" "indices" "[I" (.ref aiJ)) (PJ1 : Fld Z hJ a751 "com/example/libtbox/libtbox/core/SparseBitSet" "words" "[J" (.ref awJ)) (PJ2 : Fld Z hJ a751 "com/example/libtbox/libtbox/core/SparseBitSet" "count" "I" (.int (1 : Int32))) (PJ3 : Fld Z hJ a751 "com/example/libtbox/libtbox/core/SparseBitSet" "lastFound" "I" (.int (0 : Int32))) (PJ4 : Arv Z hJ aiJ kiJ .int (2 : Int32) [(.int ij0), (.int (0 : Int32))] (.int 0)) (PJ5 : Arv Z hJ awJ kwJ .long (2 : Int32) [(.long wj0), (.long (0 : Int64))] (.long 0)) (fiJ : Z.heap.size ≤ aiJ) (fwJ : Z.heap.size ≤ awJ) (n1J : a751 ≠ aiJ) (n2J : a751 ≠ awJ) (n3J : aiJ ≠ awJ) (gj0 : ¬ ij0 < 0 ∧ ij0 < 4) (qj0 : ((own_add (own_f j4 j5 (j4 ^^^ (-1 : Int64)) (j4 ^^^ j5)) ij0.toNatClampNeg wj0) 0) = (own_acc (XT.ushr xv (6 : Int32)) (0 : Int32) j4 ((1 : Int64) <<< (xv.toInt64 &&& 63)))) (qj1 : ((own_add (own_f j4 j5 (j4 ^^^ (-1 : Int64)) (j4 ^^^ j5)) ij0.toNatClampNeg wj0) 1) = (own_acc (XT.ushr xv (6 : Int32)) (1 : Int32) j5 ((1 : Int64) <<< (xv.toInt64 &&& 63)))) (qj2 : ((own_add (own_f j4 j5 (j4 ^^^ (-1 : Int64)) (j4 ^^^ j5)) ij0.toNatClampNeg wj0) 2) = (own_acc (XT.ushr xv (6 : Int32)) (2 : Int32) (j4 ^^^ (-1 : Int64)) ((1 : Int64) <<< (xv.toInt64 &&& 63)))) (qj3 : ((own_add (own_f j4 j5 (j4 ^^^ (-1 : Int64)) (j4 ^^^ j5)) ij0.toNatClampNeg wj0) 3) = (own_acc (XT.ushr xv (6 : Int32)) (3 : Int32) (j4 ^^^ j5) ((1 : Int64) <<< (xv.toInt64 &&& 63)))), Ends p e below s (fun v h L => v = some (.int 1) ∧ Fr Z.heap.size L) room_1.cells room_1.slots TJ (mkF m 74 #[iv i0, iv i1, iv i2, iv i3, .val (.long j4), .second, .val (.long j5), .second, iv (1 : Int32), iv xv, iv yv, iv zv, rv a751, .unset, .unset, .unset, .unset, .unset, .unset, .unset, .unset, .unset] []) := by
      intro TJ hJ LJ aiJ awJ kiJ kwJ ij0 wj0 XJ eJ OJ NJ EJ PJ0 PJ1 PJ2 PJ3 PJ4 PJ5 fiJ fwJ n1J n2J n3J gj0 qj0 qj1 qj2 qj3
      refine go (fun _ => XT.lload XJ.here hx rfl (hb hby at_74) rfl) ?_
      refine go (fun _ => XT.lstore XJ.here hx rfl (hb hby at_76) rfl (l' := #[iv i0, iv i1, iv i2, iv i3, .val (.long j4), .second, .val (.long j5), .second, iv (1 : Int32), iv xv, iv yv, iv zv, rv a751, .val (.long j4), .second, .unset, .unset, .unset, .unset, .unset, .unset, .unset]) rfl) ?_
      refine go (fun _ => XT.lload XJ.here hx rfl (hb hby at_78) rfl) ?_
      refine go (fun _ => XT.lstore XJ.here hx rfl (hb hby at_80) rfl (l' := #[iv i0, iv i1, iv i2, iv i3, .val (.long j4), .second, .val (.long j5), .second, iv (1 : Int32), iv xv, iv yv, iv zv, rv a751, .val (.long j4), .second, .val (.long j5), .second, .unset, .unset, .unset, .unset, .unset]) rfl) ?_
      refine go (fun _ => XT.lload XJ.here hx rfl (hb hby at_82) rfl) ?_
      show Ends p e below s _ _ _ TJ (mkF m 84 #[iv i0, iv i1, iv i2, iv i3, .val (.long j4), .second, .val (.long j5), .second, iv (1 : Int32), iv xv, iv yv, iv zv, rv a751, .val (.long j4), .second, .val (.long j5), .second, .unset, .unset, .unset, .unset, .unset] [(.long j4)])
      refine go (fun _ => Jvm.Stand.ldc2J XJ hx hown (mvT hZ (hwi hw 59 rfl)) rfl (hb hby at_84)) ?_
      show Ends p e below s _ _ _ TJ (mkF m 87 #[iv i0, iv i1, iv i2, iv i3, .val (.long j4), .second, .val (.long j5), .second, iv (1 : Int32), iv xv, iv yv, iv zv, rv a751, .val (.long j4), .second, .val (.long j5), .second, .unset, .unset, .unset, .unset, .unset] [(.long (-1 : Int64)), (.long j4)])
      refine go (fun _ => XT.lxor XJ.here hx rfl (hb hby at_87) rfl) ?_
      refine go (fun _ => XT.lstore XJ.here hx rfl (hb hby at_88) rfl (l' := #[iv i0, iv i1, iv i2, iv i3, .val (.long j4), .second, .val (.long j5), .second, iv (1 : Int32), iv xv, iv yv, iv zv, rv a751, .val (.long j4), .second, .val (.long j5), .second, .val (.long (j4 ^^^ (-1 : Int64))), .second, .unset, .unset, .unset]) rfl) ?_
      refine go (fun _ => XT.lload XJ.here hx rfl (hb hby at_90) rfl) ?_
      refine go (fun _ => XT.lload XJ.here hx rfl (hb hby at_92) rfl) ?_
      refine go (fun _ => XT.lxor XJ.here hx rfl (hb hby at_94) rfl) ?_
      refine go (fun _ => XT.lstore XJ.here hx rfl (hb hby at_95) rfl (l' := #[iv i0, iv i1, iv i2, iv i3, .val (.long j4), .second, .val (.long j5), .second, iv (1 : Int32), iv xv, iv yv, iv zv, rv a751, .val (.long j4), .second, .val (.long j5), .second, .val (.long (j4 ^^^ (-1 : Int64))), .second, .val (.long (j4 ^^^ j5)), .second, .unset]) rfl) ?_
      show Ends p e below s _ _ _ TJ (mkF m 97 #[iv i0, iv i1, iv i2, iv i3, .val (.long j4), .second, .val (.long j5), .second, iv (1 : Int32), iv xv, iv yv, iv zv, rv a751, .val (.long j4), .second, .val (.long j5), .second, .val (.long (j4 ^^^ (-1 : Int64))), .second, .val (.long (j4 ^^^ j5)), .second, .unset] [])
      refine go (fun _ => XT.iconstV XJ.here hx rfl (4 : Int32) (hb hby at_97) (by decide)) ?_
      show Ends p e below s _ _ _ TJ (mkF m 98 #[iv i0, iv i1, iv i2, iv i3, .val (.long j4), .second, .val (.long j5), .second, iv (1 : Int32), iv xv, iv yv, iv zv, rv a751, .val (.long j4), .second, .val (.long j5), .second, .val (.long (j4 ^^^ (-1 : Int64))), .second, .val (.long (j4 ^^^ j5)), .second, .unset] [(.int (4 : Int32))])
      obtain ⟨T759, h759, k759, X759, e759, E759, A759, s759⟩ := newP XJ hx hZ (hwi hw 57 rfl) eJ (g := (mkF m 98 #[iv i0, iv i1, iv i2, iv i3, .val (.long j4), .second, .val (.long j5), .second, iv (1 : Int32), iv xv, iv yv, iv zv, rv a751, .val (.long j4), .second, .val (.long j5), .second, .val (.long (j4 ^^^ (-1 : Int64))), .second, .val (.long (j4 ^^^ j5)), .second, .unset] [(.int (4 : Int32))])) rfl (hb hby at_98) rfl (by decide) (cap := 4) (by decide) (by decide) (by decide) (by decide)
      obtain ⟨a759, g759⟩ : ∃ z : Addr, z = hJ.size := ⟨_, rfl⟩
      have n760 : a751 ≠ a759 := fun q => absurd (EJ.lt) (by rw [q, g759]; exact Nat.lt_irrefl _)
      have n761 : aiJ ≠ a759 := fun q => absurd (PJ4.lt) (by rw [q, g759]; exact Nat.lt_irrefl _)
      have n762 : awJ ≠ a759 := fun q => absurd (PJ5.lt) (by rw [q, g759]; exact Nat.lt_irrefl _)
      have f759 : Z.heap.size ≤ a759 := by rw [g759]; exact (OJ).1
      rw [← g759] at A759 s759
      have O763 : Ext Z.heap h759 := xx OJ E759
      have V759 : Arv Z h759 a759 k759 .long (4 : Int32) [(.long (0 : Int64)), (.long (0 : Int64)), (.long (0 : Int64)), (.long (0 : Int64))] (.long 0) := Arv.pad (Arv.new A759 (by decide)) (pad_rep [] _ 4)
      refine go s759 ?_
      show Ends p e below s _ _ _ T759 (mkF m 100 #[iv i0, iv i1, iv i2, iv i3, .val (.long j4), .second, .val (.long j5), .second, iv (1 : Int32), iv xv, iv yv, iv zv, rv a751, .val (.long j4), .second, .val (.long j5), .second, .val (.long (j4 ^^^ (-1 : Int64))), .second, .val (.long (j4 ^^^ j5)), .second, .unset] [(.ref a759)])
      refine go (fun _ => XS.dup X759.here hx rfl (hb hby at_100) rfl rfl) ?_
      refine go (fun _ => XT.iconstV X759.here hx rfl (0 : Int32) (hb hby at_101) (by decide)) ?_
      refine go (fun _ => XT.lload X759.here hx rfl (hb hby at_102) rfl) ?_
      show Ends p e below s _ _ _ T759 (mkF m 104 #[iv i0, iv i1, iv i2, iv i3, .val (.long j4), .second, .val (.long j5), .second, iv (1 : Int32), iv xv, iv yv, iv zv, rv a751, .val (.long j4), .second, .val (.long j5), .second, .val (.long (j4 ^^^ (-1 : Int64))), .second, .val (.long (j4 ^^^ j5)), .second, .unset] [(.long j4), (.int (0 : Int32)), (.ref a759), (.ref a759)])
      obtain ⟨cl764, A764, q764, S764, M764, H764, G764⟩ := id V759
      obtain ⟨T764, h764, X764, e764, W764, s764⟩ := stJ X759 hx hZ e759 A764 (j := (0 : Int32)) (inb_of S764 (by decide)) (g := (mkF m 104 #[iv i0, iv i1, iv i2, iv i3, .val (.long j4), .second, .val (.long j5), .second, iv (1 : Int32), iv xv, iv yv, iv zv, rv a751, .val (.long j4), .second, .val (.long j5), .second, .val (.long (j4 ^^^ (-1 : Int64))), .second, .val (.long (j4 ^^^ j5)), .second, .unset] [(.long j4), (.int (0 : Int32)), (.ref a759), (.ref a759)])) rfl rfl (hb hby at_104)
      have N764 := Fr.snoc X764 NJ f759
      have O765 : Ext Z.heap h764 := xw O763 W764 f759
      have V764 : Arv Z h764 a759 k759 .long (4 : Int32) [(.long j4), (.long (0 : Int64)), (.long (0 : Int64)), (.long (0 : Int64))] (.long 0) := Arv.set A764 q764 S764 M764 H764 G764 rfl W764 0 (by decide) (Nat.le_of_ble_eq_true rfl)
      refine go s764 ?_
      show Ends p e below s _ _ _ T764 (mkF m 105 #[iv i0, iv i1, iv i2, iv i3, .val (.long j4), .second, .val (.long j5), .second, iv (1 : Int32), iv xv, iv yv, iv zv, rv a751, .val (.long j4), .second, .val (.long j5), .second, .val (.long (j4 ^^^ (-1 : Int64))), .second, .val (.long (j4 ^^^ j5)), .second, .unset] [(.ref a759)])
      refine go (fun _ => XS.dup X764.here hx rfl (hb hby at_105) rfl rfl) ?_
      refine go (fun _ => XT.iconstV X764.here hx rfl (1 : Int32) (hb hby at_106) (by decide)) ?_
      refine go (fun _ => XT.lload X764.here hx rfl (hb hby at_107) rfl) ?_
      show Ends p e below s _ _ _ T764 (mkF m 109 #[iv i0, iv i1, iv i2, iv i3, .val (.long j4), .second, .val (.long j5), .second, iv (1 : Int32), iv xv, iv yv, iv zv, rv a751, .val (.long j4), .second, .val (.long j5), .second, .val (.long (j4 ^^^ (-1 : Int64))), .second, .val (.long (j4 ^^^ j5)), .second, .unset] [(.long j5), (.int (1 : Int32)), (.ref a759), (.ref a759)])
      obtain ⟨cl766, A766, q766, S766, M766, H766, G766⟩ := id V764
      obtain ⟨T766, h766, X766, e766, W766, s766⟩ := stJ X764 hx hZ e764 A766 (j := (1 : Int32)) (inb_of S766 (by decide)) (g := (mkF m 109 #[iv i0, iv i1, iv i2, iv i3, .val (.long j4), .second, .val (.long j5), .second, iv (1 : Int32), iv xv, iv yv, iv zv, rv a751, .val (.long j4), .second, .val (.long j5), .second, .val (.long (j4 ^^^ (-1 : Int64))), .second, .val (.long (j4 ^^^ j5)), .second, .unset] [(.long j5), (.int (1 : Int32)), (.ref a759), (.ref a759)])) rfl rfl (hb hby at_109)
      have N766 := Fr.snoc X766 N764 f759
      have O767 : Ext Z.heap h766 := xw O765 W766 f759
      have V766 : Arv Z h766 a759 k759 .long (4 : Int32) [(.long j4), (.long j5), (.long (0 : Int64)), (.long (0 : Int64))] (.long 0) := Arv.set A766 q766 S766 M766 H766 G766 rfl W766 1 (by decide) (Nat.le_of_ble_eq_true rfl)
      refine go s766 ?_
      show Ends p e below s _ _ _ T766 (mkF m 110 #[iv i0, iv i1, iv i2, iv i3, .val (.long j4), .second, .val (.long j5), .second, iv (1 : Int32), iv xv, iv yv, iv zv, rv a751, .val (.long j4), .second, .val (.long j5), .second, .val (.long (j4 ^^^ (-1 : Int64))), .second, .val (.long (j4 ^^^ j5)), .second, .unset] [(.ref a759)])
      refine go (fun _ => XS.dup X766.here hx rfl (hb hby at_110) rfl rfl) ?_
      refine go (fun _ => XT.iconstV X766.here hx rfl (2 : Int32) (hb hby at_111) (by decide)) ?_
      refine go (fun _ => XT.lload X766.here hx rfl (hb hby at_112) rfl) ?_
      show Ends p e below s _ _ _ T766 (mkF m 114 #[iv i0, iv i1, iv i2, iv i3, .val (.long j4), .second, .val (.long j5), .second, iv (1 : Int32), iv xv, iv yv, iv zv, rv a751, .val (.long j4), .second, .val (.long j5), .second, .val (.long (j4 ^^^ (-1 : Int64))), .second, .val (.long (j4 ^^^ j5)), .second, .unset] [(.long (j4 ^^^ (-1 : Int64))), (.int (2 : Int32)), (.ref a759), (.ref a759)])
      obtain ⟨cl768, A768, q768, S768, M768, H768, G768⟩ := id V766
      obtain ⟨T768, h768, X768, e768, W768, s768⟩ := stJ X766 hx hZ e766 A768 (j := (2 : Int32)) (inb_of S768 (by decide)) (g := (mkF m 114 #[iv i0, iv i1, iv i2, iv i3, .val (.long j4), .second, .val (.long j5), .second, iv (1 : Int32), iv xv, iv yv, iv zv, rv a751, .val (.long j4), .second, .val (.long j5), .second, .val (.long (j4 ^^^ (-1 : Int64))), .second, .val (.long (j4 ^^^ j5)), .second, .unset] [(.long (j4 ^^^ (-1 : Int64))), (.int (2 : Int32)), (.ref a759), (.ref a759)])) rfl rfl (hb hby at_114)
      have N768 := Fr.snoc X768 N766 f759
      have O769 : Ext Z.heap h768 := xw O767 W768 f759
      have V768 : Arv Z h768 a759 k759 .long (4 : Int32) [(.long j4), (.long j5), (.long (j4 ^^^ (-1 : Int64))), (.long (0 : Int64))] (.long 0) := Arv.set A768 q768 S768 M768 H768 G768 rfl W768 2 (by decide) (Nat.le_of_ble_eq_true rfl)
      refine go s768 ?_
      show Ends p e below s _ _ _ T768 (mkF m 115 #[iv i0, iv i1, iv i2, iv i3, .val (.long j4), .second, .val (.long j5), .second, iv (1 : Int32), iv xv, iv yv, iv zv, rv a751, .val (.long j4), .second, .val (.long j5), .second, .val (.long (j4 ^^^ (-1 : Int64))), .second, .val (.long (j4 ^^^ j5)), .second, .unset] [(.ref a759)])
      refine go (fun _ => XS.dup X768.here hx rfl (hb hby at_115) rfl rfl) ?_
      refine go (fun _ => XT.iconstV X768.here hx rfl (3 : Int32) (hb hby at_116) (by decide)) ?_
      refine go (fun _ => XT.lload X768.here hx rfl (hb hby at_117) rfl) ?_
      show Ends p e below s _ _ _ T768 (mkF m 119 #[iv i0, iv i1, iv i2, iv i3, .val (.long j4), .second, .val (.long j5), .second, iv (1 : Int32), iv xv, iv yv, iv zv, rv a751, .val (.long j4), .second, .val (.long j5), .second, .val (.long (j4 ^^^ (-1 : Int64))), .second, .val (.long (j4 ^^^ j5)), .second, .unset] [(.long (j4 ^^^ j5)), (.int (3 : Int32)), (.ref a759), (.ref a759)])
      obtain ⟨cl770, A770, q770, S770, M770, H770, G770⟩ := id V768
      obtain ⟨T770, h770, X770, e770, W770, s770⟩ := stJ X768 hx hZ e768 A770 (j := (3 : Int32)) (inb_of S770 (by decide)) (g := (mkF m 119 #[iv i0, iv i1, iv i2, iv i3, .val (.long j4), .second, .val (.long j5), .second, iv (1 : Int32), iv xv, iv yv, iv zv, rv a751, .val (.long j4), .second, .val (.long j5), .second, .val (.long (j4 ^^^ (-1 : Int64))), .second, .val (.long (j4 ^^^ j5)), .second, .unset] [(.long (j4 ^^^ j5)), (.int (3 : Int32)), (.ref a759), (.ref a759)])) rfl rfl (hb hby at_119)
      have N770 := Fr.snoc X770 N768 f759
      have O771 : Ext Z.heap h770 := xw O769 W770 f759
      have V770 : Arv Z h770 a759 k759 .long (4 : Int32) [(.long j4), (.long j5), (.long (j4 ^^^ (-1 : Int64))), (.long (j4 ^^^ j5))] (.long 0) := Arv.set A770 q770 S770 M770 H770 G770 rfl W770 3 (by decide) (Nat.le_of_ble_eq_true rfl)
      refine go s770 ?_
      show Ends p e below s _ _ _ T770 (mkF m 120 #[iv i0, iv i1, iv i2, iv i3, .val (.long j4), .second, .val (.long j5), .second, iv (1 : Int32), iv xv, iv yv, iv zv, rv a751, .val (.long j4), .second, .val (.long j5), .second, .val (.long (j4 ^^^ (-1 : Int64))), .second, .val (.long (j4 ^^^ j5)), .second, .unset] [(.ref a759)])
      refine go (fun _ => XS.astore X770.here hx rfl (hb hby at_120) rfl rfl (l' := #[iv i0, iv i1, iv i2, iv i3, .val (.long j4), .second, .val (.long j5), .second, iv (1 : Int32), iv xv, iv yv, iv zv, rv a751, .val (.long j4), .second, .val (.long j5), .second, .val (.long (j4 ^^^ (-1 : Int64))), .second, .val (.long (j4 ^^^ j5)), .second, rv a759]) rfl) ?_
      refine go (fun _ => XS.aload X770.here hx rfl (hb hby at_122) rfl rfl) ?_
      refine go (fun _ => XS.aload X770.here hx rfl (hb hby at_124) rfl rfl) ?_
      show Ends p e below s _ _ _ T770 (mkF m 126 #[iv i0, iv i1, iv i2, iv i3, .val (.long j4), .second, .val (.long j5), .second, iv (1 : Int32), iv xv, iv yv, iv zv, rv a751, .val (.long j4), .second, .val (.long j5), .second, .val (.long (j4 ^^^ (-1 : Int64))), .second, .val (.long (j4 ^^^ j5)), .second, rv a759] [(.ref a759), (.ref a751)])
      have F772 := (Fld.other W770 (Fld.other W768 (Fld.other W766 (Fld.other W764 (Fld.ext E759 PJ0) (Or.inl n760)) (Or.inl n760)) (Or.inl n760)) (Or.inl n760))
      have F773 := (Fld.other W770 (Fld.other W768 (Fld.other W766 (Fld.other W764 (Fld.ext E759 PJ1) (Or.inl n760)) (Or.inl n760)) (Or.inl n760)) (Or.inl n760))
      have F774 := (Fld.other W770 (Fld.other W768 (Fld.other W766 (Fld.other W764 (Fld.ext E759 PJ2) (Or.inl n760)) (Or.inl n760)) (Or.inl n760)) (Or.inl n760))
      have F775 := (Fld.other W770 (Fld.other W768 (Fld.other W766 (Fld.other W764 (Fld.ext E759 PJ3) (Or.inl n760)) (Or.inl n760)) (Or.inl n760)) (Or.inl n760))
      have F776 := (Arv.other (Arv.other (Arv.other (Arv.other (Arv.ext PJ4 E759) W764 n761) W766 n761) W768 n761) W770 n761)
      have F777 := (Arv.other (Arv.other (Arv.other (Arv.other (Arv.ext PJ5 E759) W764 n762) W766 n762) W768 n762) W770 n762)
      have F778 := (Exa.wr W770 (Exa.wr W768 (Exa.wr W766 (Exa.wr W764 (Exa.ext E759 EJ)))))
      have VL779 : Arv Z h770 a759 k759 .long (4 : Int32) (own_b (own_f j4 j5 (j4 ^^^ (-1 : Int64)) (j4 ^^^ j5))) (.long 0) := V770
      refine cVirt X770 hx hZ hown (by rw [hml]; rfl) e770 (hwi hw 60 rfl) (hwi hw 61 rfl) (hwi hw 63 rfl) (hwi hw 62 rfl) (hwi hw 2 rfl) (hwi hw 64 rfl) (notFace_of_selects (args := #[]) (mvT hZ (hwi hw 63 rfl))) a751 F778 [(.ref a759)] [] rfl (rm_add1_0 hw a751 aiJ awJ kiJ kwJ ij0 wj0 a759 k759 (own_f j4 j5 (j4 ^^^ (-1 : Int64)) (j4 ^^^ j5)) _ O771 f751 F778 F772 F773 F774 F775 F776 F777 fiJ fwJ n1J n2J n3J VL779 f759 n760 n761 n762 gj0) (hb hby at_126) rfl (lenOf pd_12 rfl) (by decide) (by decide) (Nat.le_of_ble_eq_true rfl) (by decide) (by decide) ?_
      rintro v780 T780 h780 L780 X780 e780 ⟨rfl, N780, K780, V780⟩
      have N780a := Fr.app N770 N780
      have O781 : Ext Z.heap h780 := xk O771 K780 (allS f759 all0)
      show Ends p e below s _ _ _ T780 (mkF m 129 #[iv i0, iv i1, iv i2, iv i3, .val (.long j4), .second, .val (.long j5), .second, iv (1 : Int32), iv xv, iv yv, iv zv, rv a751, .val (.long j4), .second, .val (.long j5), .second, .val (.long (j4 ^^^ (-1 : Int64))), .second, .val (.long (j4 ^^^ j5)), .second, rv a759] [])
      refine go (fun _ => XS.aload X780.here hx rfl (hb hby at_129) rfl rfl) ?_
      refine go (fun _ => XT.iconstV X780.here hx rfl (0 : Int32) (hb hby at_131) (by decide)) ?_
      show Ends p e below s _ _ _ T780 (mkF m 132 #[iv i0, iv i1, iv i2, iv i3, .val (.long j4), .second, .val (.long j5), .second, iv (1 : Int32), iv xv, iv yv, iv zv, rv a751, .val (.long j4), .second, .val (.long j5), .second, .val (.long (j4 ^^^ (-1 : Int64))), .second, .val (.long (j4 ^^^ j5)), .second, rv a759] [(.int (0 : Int32)), (.ref a759)])
      obtain ⟨cl782, A782, -, S782, M782, H782, -⟩ := id V780
      have B782 := inb_of S782 (j := (0 : Int32)) (by decide)
      refine go (fun _ => X780.laload hx (j := (0 : Int32)) (v := (.long ((own_add (own_f j4 j5 (j4 ^^^ (-1 : Int64)) (j4 ^^^ j5)) ij0.toNatClampNeg wj0) 0))) (by rw [e780]; exact A782.1) (State.isArrayOf_alike hZ.alike A782.2.1) A782.2.2 B782 (H782.at B782 rfl) (g := (mkF m 132 #[iv i0, iv i1, iv i2, iv i3, .val (.long j4), .second, .val (.long j5), .second, iv (1 : Int32), iv xv, iv yv, iv zv, rv a751, .val (.long j4), .second, .val (.long j5), .second, .val (.long (j4 ^^^ (-1 : Int64))), .second, .val (.long (j4 ^^^ j5)), .second, rv a759] [(.int (0 : Int32)), (.ref a759)])) rfl rfl (hb hby at_132) _) ?_
      show Ends p e below s _ _ _ T780 (mkF m 133 #[iv i0, iv i1, iv i2, iv i3, .val (.long j4), .second, .val (.long j5), .second, iv (1 : Int32), iv xv, iv yv, iv zv, rv a751, .val (.long j4), .second, .val (.long j5), .second, .val (.long (j4 ^^^ (-1 : Int64))), .second, .val (.long (j4 ^^^ j5)), .second, rv a759] [(.long ((own_add (own_f j4 j5 (j4 ^^^ (-1 : Int64)) (j4 ^^^ j5)) ij0.toNatClampNeg wj0) 0))])
      refine go (fun _ => XT.iconstV X780.here hx rfl (0 : Int32) (hb hby at_133) (by decide)) ?_
      refine go (fun _ => XT.lload X780.here hx rfl (hb hby at_134) rfl) ?_
      refine go (fun _ => XS.iload X780.here hx rfl (hb hby at_136) rfl) ?_
      refine go (fun _ => XS.iload X780.here hx rfl (hb hby at_138) rfl) ?_
      refine go (fun _ => XS.iload X780.here hx rfl (hb hby at_140) rfl) ?_
      refine go (fun _ => XS.iload X780.here hx rfl (hb hby at_142) rfl) ?_
      show Ends p e below s _ _ _ T780 (mkF m 144 #[iv i0, iv i1, iv i2, iv i3, .val (.long j4), .second, .val (.long j5), .second, iv (1 : Int32), iv xv, iv yv, iv zv, rv a751, .val (.long j4), .second, .val (.long j5), .second, .val (.long (j4 ^^^ (-1 : Int64))), .second, .val (.long (j4 ^^^ j5)), .second, rv a759] [(.int zv), (.int yv), (.int xv), (.int (1 : Int32)), (.long j4), (.int (0 : Int32)), (.long ((own_add (own_f j4 j5 (j4 ^^^ (-1 : Int64)) (j4 ^^^ j5)) ij0.toNatClampNeg wj0) 0))])
      refine cStat X780 hx hZ hown (by rw [hml]; rfl) e780 (hwi hw 65 rfl) (hwi hw 66 rfl) (hwi hw 67 rfl) (hwi hw 68 rfl) [(.int (0 : Int32)), (.long j4), (.int (1 : Int32)), (.int xv), (.int yv), (.int zv)] [(.long ((own_add (own_f j4 j5 (j4 ^^^ (-1 : Int64)) (j4 ^^^ j5)) ij0.toNatClampNeg wj0) 0))] rfl (rm_exp1 hw (0 : Int32) j4 xv yv zv _) (hb hby at_144) rfl (lenOf pd_13 rfl) (by decide) (by decide) (Nat.le_of_ble_eq_true rfl) (by decide) (by decide) ?_
      rintro v783 T783 h783 L783 X783 e783 ⟨rfl, N783, rfl⟩
      have N783a := Fr.app N780a N783
      show Ends p e below s _ _ _ T783 (mkF m 147 #[iv i0, iv i1, iv i2, iv i3, .val (.long j4), .second, .val (.long j5), .second, iv (1 : Int32), iv xv, iv yv, iv zv, rv a751, .val (.long j4), .second, .val (.long j5), .second, .val (.long (j4 ^^^ (-1 : Int64))), .second, .val (.long (j4 ^^^ j5)), .second, rv a759] [(.long (own_acc (XT.ushr xv (6 : Int32)) (0 : Int32) j4 ((1 : Int64) <<< (xv.toInt64 &&& 63)))), (.long ((own_add (own_f j4 j5 (j4 ^^^ (-1 : Int64)) (j4 ^^^ j5)) ij0.toNatClampNeg wj0) 0))])
      refine go (fun _ => XT.lcmp X783.here hx rfl (hb hby at_147) rfl) ?_
      show Ends p e below s _ _ _ T783 (mkF m 148 #[iv i0, iv i1, iv i2, iv i3, .val (.long j4), .second, .val (.long j5), .second, iv (1 : Int32), iv xv, iv yv, iv zv, rv a751, .val (.long j4), .second, .val (.long j5), .second, .val (.long (j4 ^^^ (-1 : Int64))), .second, .val (.long (j4 ^^^ j5)), .second, rv a759] [(.int (XT.cmpL ((own_add (own_f j4 j5 (j4 ^^^ (-1 : Int64)) (j4 ^^^ j5)) ij0.toNatClampNeg wj0) 0) (own_acc (XT.ushr xv (6 : Int32)) (0 : Int32) j4 ((1 : Int64) <<< (xv.toInt64 &&& 63)))))])
      refine go (fun _ => XS.ifNo X783.here hx rfl (hb hby at_148) rfl (XT.ll_ne_f qj0)) ?_
      show Ends p e below s _ _ _ T783 (mkF m 151 #[iv i0, iv i1, iv i2, iv i3, .val (.long j4), .second, .val (.long j5), .second, iv (1 : Int32), iv xv, iv yv, iv zv, rv a751, .val (.long j4), .second, .val (.long j5), .second, .val (.long (j4 ^^^ (-1 : Int64))), .second, .val (.long (j4 ^^^ j5)), .second, rv a759] [])
      refine go (fun _ => XS.aload X783.here hx rfl (hb hby at_151) rfl rfl) ?_
      refine go (fun _ => XT.iconstV X783.here hx rfl (1 : Int32) (hb hby at_153) (by decide)) ?_
      show Ends p e below s _ _ _ T783 (mkF m 154 #[iv i0, iv i1, iv i2, iv i3, .val (.long j4), .second, .val (.long j5), .second, iv (1 : Int32), iv xv, iv yv, iv zv, rv a751, .val (.long j4), .second, .val (.long j5), .second, .val (.long (j4 ^^^ (-1 : Int64))), .second, .val (.long (j4 ^^^ j5)), .second, rv a759] [(.int (1 : Int32)), (.ref a759)])
      obtain ⟨cl784, A784, -, S784, M784, H784, -⟩ := id V780
      have B784 := inb_of S784 (j := (1 : Int32)) (by decide)
      refine go (fun _ => X783.laload hx (j := (1 : Int32)) (v := (.long ((own_add (own_f j4 j5 (j4 ^^^ (-1 : Int64)) (j4 ^^^ j5)) ij0.toNatClampNeg wj0) 1))) (by rw [e783]; exact A784.1) (State.isArrayOf_alike hZ.alike A784.2.1) A784.2.2 B784 (H784.at B784 rfl) (g := (mkF m 154 #[iv i0, iv i1, iv i2, iv i3, .val (.long j4), .second, .val (.long j5), .second, iv (1 : Int32), iv xv, iv yv, iv zv, rv a751, .val (.long j4), .second, .val (.long j5), .second, .val (.long (j4 ^^^ (-1 : Int64))), .second, .val (.long (j4 ^^^ j5)), .second, rv a759] [(.int (1 : Int32)), (.ref a759)])) rfl rfl (hb hby at_154) _) ?_
      show Ends p e below s _ _ _ T783 (mkF m 155 #[iv i0, iv i1, iv i2, iv i3, .val (.long j4), .second, .val (.long j5), .second, iv (1 : Int32), iv xv, iv yv, iv zv, rv a751, .val (.long j4), .second, .val (.long j5), .second, .val (.long (j4 ^^^ (-1 : Int64))), .second, .val (.long (j4 ^^^ j5)), .second, rv a759] [(.long ((own_add (own_f j4 j5 (j4 ^^^ (-1 : Int64)) (j4 ^^^ j5)) ij0.toNatClampNeg wj0) 1))])
      refine go (fun _ => XT.iconstV X783.here hx rfl (1 : Int32) (hb hby at_155) (by decide)) ?_
      refine go (fun _ => XT.lload X783.here hx rfl (hb hby at_156) rfl) ?_
      refine go (fun _ => XS.iload X783.here hx rfl (hb hby at_158) rfl) ?_
      refine go (fun _ => XS.iload X783.here hx rfl (hb hby at_160) rfl) ?_
      refine go (fun _ => XS.iload X783.here hx rfl (hb hby at_162) rfl) ?_
      refine go (fun _ => XS.iload X783.here hx rfl (hb hby at_164) rfl) ?_
      show Ends p e below s _ _ _ T783 (mkF m 166 #[iv i0, iv i1, iv i2, iv i3, .val (.long j4), .second, .val (.long j5), .second, iv (1 : Int32), iv xv, iv yv, iv zv, rv a751, .val (.long j4), .second, .val (.long j5), .second, .val (.long (j4 ^^^ (-1 : Int64))), .second, .val (.long (j4 ^^^ j5)), .second, rv a759] [(.int zv), (.int yv), (.int xv), (.int (1 : Int32)), (.long j5), (.int (1 : Int32)), (.long ((own_add (own_f j4 j5 (j4 ^^^ (-1 : Int64)) (j4 ^^^ j5)) ij0.toNatClampNeg wj0) 1))])
      refine cStat X783 hx hZ hown (by rw [hml]; rfl) e783 (hwi hw 65 rfl) (hwi hw 66 rfl) (hwi hw 67 rfl) (hwi hw 68 rfl) [(.int (1 : Int32)), (.long j5), (.int (1 : Int32)), (.int xv), (.int yv), (.int zv)] [(.long ((own_add (own_f j4 j5 (j4 ^^^ (-1 : Int64)) (j4 ^^^ j5)) ij0.toNatClampNeg wj0) 1))] rfl (rm_exp1 hw (1 : Int32) j5 xv yv zv _) (hb hby at_166) rfl (lenOf pd_13 rfl) (by decide) (by decide) (Nat.le_of_ble_eq_true rfl) (by decide) (by decide) ?_
      rintro v785 T785 h785 L785 X785 e785 ⟨rfl, N785, rfl⟩
      have N785a := Fr.app N783a N785
      show Ends p e below s _ _ _ T785 (mkF m 169 #[iv i0, iv i1, iv i2, iv i3, .val (.long j4), .second, .val (.long j5), .second, iv (1 : Int32), iv xv, iv yv, iv zv, rv a751, .val (.long j4), .second, .val (.long j5), .second, .val (.long (j4 ^^^ (-1 : Int64))), .second, .val (.long (j4 ^^^ j5)), .second, rv a759] [(.long (own_acc (XT.ushr xv (6 : Int32)) (1 : Int32) j5 ((1 : Int64) <<< (xv.toInt64 &&& 63)))), (.long ((own_add (own_f j4 j5 (j4 ^^^ (-1 : Int64)) (j4 ^^^ j5)) ij0.toNatClampNeg wj0) 1))])
      refine go (fun _ => XT.lcmp X785.here hx rfl (hb hby at_169) rfl) ?_
      show Ends p e below s _ _ _ T785 (mkF m 170 #[iv i0, iv i1, iv i2, iv i3, .val (.long j4), .second, .val (.long j5), .second, iv (1 : Int32), iv xv, iv yv, iv zv, rv a751, .val (.long j4), .second, .val (.long j5), .second, .val (.long (j4 ^^^ (-1 : Int64))), .second, .val (.long (j4 ^^^ j5)), .second, rv a759] [(.int (XT.cmpL ((own_add (own_f j4 j5 (j4 ^^^ (-1 : Int64)) (j4 ^^^ j5)) ij0.toNatClampNeg wj0) 1) (own_acc (XT.ushr xv (6 : Int32)) (1 : Int32) j5 ((1 : Int64) <<< (xv.toInt64 &&& 63)))))])
      refine go (fun _ => XS.ifNo X785.here hx rfl (hb hby at_170) rfl (XT.ll_ne_f qj1)) ?_
      show Ends p e below s _ _ _ T785 (mkF m 173 #[iv i0, iv i1, iv i2, iv i3, .val (.long j4), .second, .val (.long j5), .second, iv (1 : Int32), iv xv, iv yv, iv zv, rv a751, .val (.long j4), .second, .val (.long j5), .second, .val (.long (j4 ^^^ (-1 : Int64))), .second, .val (.long (j4 ^^^ j5)), .second, rv a759] [])
      refine go (fun _ => XS.aload X785.here hx rfl (hb hby at_173) rfl rfl) ?_
      refine go (fun _ => XT.iconstV X785.here hx rfl (2 : Int32) (hb hby at_175) (by decide)) ?_
      show Ends p e below s _ _ _ T785 (mkF m 176 #[iv i0, iv i1, iv i2, iv i3, .val (.long j4), .second, .val (.long j5), .second, iv (1 : Int32), iv xv, iv yv, iv zv, rv a751, .val (.long j4), .second, .val (.long j5), .second, .val (.long (j4 ^^^ (-1 : Int64))), .second, .val (.long (j4 ^^^ j5)), .second, rv a759] [(.int (2 : Int32)), (.ref a759)])
      obtain ⟨cl786, A786, -, S786, M786, H786, -⟩ := id V780
      have B786 := inb_of S786 (j := (2 : Int32)) (by decide)
      refine go (fun _ => X785.laload hx (j := (2 : Int32)) (v := (.long ((own_add (own_f j4 j5 (j4 ^^^ (-1 : Int64)) (j4 ^^^ j5)) ij0.toNatClampNeg wj0) 2))) (by rw [e785]; exact A786.1) (State.isArrayOf_alike hZ.alike A786.2.1) A786.2.2 B786 (H786.at B786 rfl) (g := (mkF m 176 #[iv i0, iv i1, iv i2, iv i3, .val (.long j4), .second, .val (.long j5), .second, iv (1 : Int32), iv xv, iv yv, iv zv, rv a751, .val (.long j4), .second, .val (.long j5), .second, .val (.long (j4 ^^^ (-1 : Int64))), .second, .val (.long (j4 ^^^ j5)), .second, rv a759] [(.int (2 : Int32)), (.ref a759)])) rfl rfl (hb hby at_176) _) ?_
      show Ends p e below s _ _ _ T785 (mkF m 177 #[iv i0, iv i1, iv i2, iv i3, .val (.long j4), .second, .val (.long j5), .second, iv (1 : Int32), iv xv, iv yv, iv zv, rv a751, .val (.long j4), .second, .val (.long j5), .second, .val (.long (j4 ^^^ (-1 : Int64))), .second, .val (.long (j4 ^^^ j5)), .second, rv a759] [(.long ((own_add (own_f j4 j5 (j4 ^^^ (-1 : Int64)) (j4 ^^^ j5)) ij0.toNatClampNeg wj0) 2))])
      refine go (fun _ => XT.iconstV X785.here hx rfl (2 : Int32) (hb hby at_177) (by decide)) ?_
      refine go (fun _ => XT.lload X785.here hx rfl (hb hby at_178) rfl) ?_
      refine go (fun _ => XS.iload X785.here hx rfl (hb hby at_180) rfl) ?_
      refine go (fun _ => XS.iload X785.here hx rfl (hb hby at_182) rfl) ?_
      refine go (fun _ => XS.iload X785.here hx rfl (hb hby at_184) rfl) ?_
      refine go (fun _ => XS.iload X785.here hx rfl (hb hby at_186) rfl) ?_
      show Ends p e below s _ _ _ T785 (mkF m 188 #[iv i0, iv i1, iv i2, iv i3, .val (.long j4), .second, .val (.long j5), .second, iv (1 : Int32), iv xv, iv yv, iv zv, rv a751, .val (.long j4), .second, .val (.long j5), .second, .val (.long (j4 ^^^ (-1 : Int64))), .second, .val (.long (j4 ^^^ j5)), .second, rv a759] [(.int zv), (.int yv), (.int xv), (.int (1 : Int32)), (.long (j4 ^^^ (-1 : Int64))), (.int (2 : Int32)), (.long ((own_add (own_f j4 j5 (j4 ^^^ (-1 : Int64)) (j4 ^^^ j5)) ij0.toNatClampNeg wj0) 2))])
      refine cStat X785 hx hZ hown (by rw [hml]; rfl) e785 (hwi hw 65 rfl) (hwi hw 66 rfl) (hwi hw 67 rfl) (hwi hw 68 rfl) [(.int (2 : Int32)), (.long (j4 ^^^ (-1 : Int64))), (.int (1 : Int32)), (.int xv), (.int yv), (.int zv)] [(.long ((own_add (own_f j4 j5 (j4 ^^^ (-1 : Int64)) (j4 ^^^ j5)) ij0.toNatClampNeg wj0) 2))] rfl (rm_exp1 hw (2 : Int32) (j4 ^^^ (-1 : Int64)) xv yv zv _) (hb hby at_188) rfl (lenOf pd_13 rfl) (by decide) (by decide) (Nat.le_of_ble_eq_true rfl) (by decide) (by decide) ?_
      rintro v787 T787 h787 L787 X787 e787 ⟨rfl, N787, rfl⟩
      have N787a := Fr.app N785a N787
      show Ends p e below s _ _ _ T787 (mkF m 191 #[iv i0, iv i1, iv i2, iv i3, .val (.long j4), .second, .val (.long j5), .second, iv (1 : Int32), iv xv, iv yv, iv zv, rv a751, .val (.long j4), .second, .val (.long j5), .second, .val (.long (j4 ^^^ (-1 : Int64))), .second, .val (.long (j4 ^^^ j5)), .second, rv a759] [(.long (own_acc (XT.ushr xv (6 : Int32)) (2 : Int32) (j4 ^^^ (-1 : Int64)) ((1 : Int64) <<< (xv.toInt64 &&& 63)))), (.long ((own_add (own_f j4 j5 (j4 ^^^ (-1 : Int64)) (j4 ^^^ j5)) ij0.toNatClampNeg wj0) 2))])
      refine go (fun _ => XT.lcmp X787.here hx rfl (hb hby at_191) rfl) ?_
      show Ends p e below s _ _ _ T787 (mkF m 192 #[iv i0, iv i1, iv i2, iv i3, .val (.long j4), .second, .val (.long j5), .second, iv (1 : Int32), iv xv, iv yv, iv zv, rv a751, .val (.long j4), .second, .val (.long j5), .second, .val (.long (j4 ^^^ (-1 : Int64))), .second, .val (.long (j4 ^^^ j5)), .second, rv a759] [(.int (XT.cmpL ((own_add (own_f j4 j5 (j4 ^^^ (-1 : Int64)) (j4 ^^^ j5)) ij0.toNatClampNeg wj0) 2) (own_acc (XT.ushr xv (6 : Int32)) (2 : Int32) (j4 ^^^ (-1 : Int64)) ((1 : Int64) <<< (xv.toInt64 &&& 63)))))])
      refine go (fun _ => XS.ifNo X787.here hx rfl (hb hby at_192) rfl (XT.ll_ne_f qj2)) ?_
      show Ends p e below s _ _ _ T787 (mkF m 195 #[iv i0, iv i1, iv i2, iv i3, .val (.long j4), .second, .val (.long j5), .second, iv (1 : Int32), iv xv, iv yv, iv zv, rv a751, .val (.long j4), .second, .val (.long j5), .second, .val (.long (j4 ^^^ (-1 : Int64))), .second, .val (.long (j4 ^^^ j5)), .second, rv a759] [])
      refine go (fun _ => XS.aload X787.here hx rfl (hb hby at_195) rfl rfl) ?_
      refine go (fun _ => XT.iconstV X787.here hx rfl (3 : Int32) (hb hby at_197) (by decide)) ?_
      show Ends p e below s _ _ _ T787 (mkF m 198 #[iv i0, iv i1, iv i2, iv i3, .val (.long j4), .second, .val (.long j5), .second, iv (1 : Int32), iv xv, iv yv, iv zv, rv a751, .val (.long j4), .second, .val (.long j5), .second, .val (.long (j4 ^^^ (-1 : Int64))), .second, .val (.long (j4 ^^^ j5)), .second, rv a759] [(.int (3 : Int32)), (.ref a759)])
      obtain ⟨cl788, A788, -, S788, M788, H788, -⟩ := id V780
      have B788 := inb_of S788 (j := (3 : Int32)) (by decide)
      refine go (fun _ => X787.laload hx (j := (3 : Int32)) (v := (.long ((own_add (own_f j4 j5 (j4 ^^^ (-1 : Int64)) (j4 ^^^ j5)) ij0.toNatClampNeg wj0) 3))) (by rw [e787]; exact A788.1) (State.isArrayOf_alike hZ.alike A788.2.1) A788.2.2 B788 (H788.at B788 rfl) (g := (mkF m 198 #[iv i0, iv i1, iv i2, iv i3, .val (.long j4), .second, .val (.long j5), .second, iv (1 : Int32), iv xv, iv yv, iv zv, rv a751, .val (.long j4), .second, .val (.long j5), .second, .val (.long (j4 ^^^ (-1 : Int64))), .second, .val (.long (j4 ^^^ j5)), .second, rv a759] [(.int (3 : Int32)), (.ref a759)])) rfl rfl (hb hby at_198) _) ?_
      show Ends p e below s _ _ _ T787 (mkF m 199 #[iv i0, iv i1, iv i2, iv i3, .val (.long j4), .second, .val (.long j5), .second, iv (1 : Int32), iv xv, iv yv, iv zv, rv a751, .val (.long j4), .second, .val (.long j5), .second, .val (.long (j4 ^^^ (-1 : Int64))), .second, .val (.long (j4 ^^^ j5)), .second, rv a759] [(.long ((own_add (own_f j4 j5 (j4 ^^^ (-1 : Int64)) (j4 ^^^ j5)) ij0.toNatClampNeg wj0) 3))])
      refine go (fun _ => XT.iconstV X787.here hx rfl (3 : Int32) (hb hby at_199) (by decide)) ?_
      refine go (fun _ => XT.lload X787.here hx rfl (hb hby at_200) rfl) ?_
      refine go (fun _ => XS.iload X787.here hx rfl (hb hby at_202) rfl) ?_
      refine go (fun _ => XS.iload X787.here hx rfl (hb hby at_204) rfl) ?_
      refine go (fun _ => XS.iload X787.here hx rfl (hb hby at_206) rfl) ?_
      refine go (fun _ => XS.iload X787.here hx rfl (hb hby at_208) rfl) ?_
      show Ends p e below s _ _ _ T787 (mkF m 210 #[iv i0, iv i1, iv i2, iv i3, .val (.long j4), .second, .val (.long j5), .second, iv (1 : Int32), iv xv, iv yv, iv zv, rv a751, .val (.long j4), .second, .val (.long j5), .second, .val (.long (j4 ^^^ (-1 : Int64))), .second, .val (.long (j4 ^^^ j5)), .second, rv a759] [(.int zv), (.int yv), (.int xv), (.int (1 : Int32)), (.long (j4 ^^^ j5)), (.int (3 : Int32)), (.long ((own_add (own_f j4 j5 (j4 ^^^ (-1 : Int64)) (j4 ^^^ j5)) ij0.toNatClampNeg wj0) 3))])
      refine cStat X787 hx hZ hown (by rw [hml]; rfl) e787 (hwi hw 65 rfl) (hwi hw 66 rfl) (hwi hw 67 rfl) (hwi hw 68 rfl) [(.int (3 : Int32)), (.long (j4 ^^^ j5)), (.int (1 : Int32)), (.int xv), (.int yv), (.int zv)] [(.long ((own_add (own_f j4 j5 (j4 ^^^ (-1 : Int64)) (j4 ^^^ j5)) ij0.toNatClampNeg wj0) 3))] rfl (rm_exp1 hw (3 : Int32) (j4 ^^^ j5) xv yv zv _) (hb hby at_210) rfl (lenOf pd_13 rfl) (by decide) (by decide) (Nat.le_of_ble_eq_true rfl) (by decide) (by decide) ?_
      rintro v789 T789 h789 L789 X789 e789 ⟨rfl, N789, rfl⟩
      have N789a := Fr.app N787a N789
      show Ends p e below s _ _ _ T789 (mkF m 213 #[iv i0, iv i1, iv i2, iv i3, .val (.long j4), .second, .val (.long j5), .second, iv (1 : Int32), iv xv, iv yv, iv zv, rv a751, .val (.long j4), .second, .val (.long j5), .second, .val (.long (j4 ^^^ (-1 : Int64))), .second, .val (.long (j4 ^^^ j5)), .second, rv a759] [(.long (own_acc (XT.ushr xv (6 : Int32)) (3 : Int32) (j4 ^^^ j5) ((1 : Int64) <<< (xv.toInt64 &&& 63)))), (.long ((own_add (own_f j4 j5 (j4 ^^^ (-1 : Int64)) (j4 ^^^ j5)) ij0.toNatClampNeg wj0) 3))])
      refine go (fun _ => XT.lcmp X789.here hx rfl (hb hby at_213) rfl) ?_
      show Ends p e below s _ _ _ T789 (mkF m 214 #[iv i0, iv i1, iv i2, iv i3, .val (.long j4), .second, .val (.long j5), .second, iv (1 : Int32), iv xv, iv yv, iv zv, rv a751, .val (.long j4), .second, .val (.long j5), .second, .val (.long (j4 ^^^ (-1 : Int64))), .second, .val (.long (j4 ^^^ j5)), .second, rv a759] [(.int (XT.cmpL ((own_add (own_f j4 j5 (j4 ^^^ (-1 : Int64)) (j4 ^^^ j5)) ij0.toNatClampNeg wj0) 3) (own_acc (XT.ushr xv (6 : Int32)) (3 : Int32) (j4 ^^^ j5) ((1 : Int64) <<< (xv.toInt64 &&& 63)))))])
      refine go (fun _ => XS.ifNo X789.here hx rfl (hb hby at_214) rfl (XT.ll_ne_f qj3)) ?_
      show Ends p e below s _ _ _ T789 (mkF m 217 #[iv i0, iv i1, iv i2, iv i3, .val (.long j4), .second, .val (.long j5), .second, iv (1 : Int32), iv xv, iv yv, iv zv, rv a751, .val (.long j4), .second, .val (.long j5), .second, .val (.long (j4 ^^^ (-1 : Int64))), .second, .val (.long (j4 ^^^ j5)), .second, rv a759] [])
      refine go (fun _ => XT.iconstV X789.here hx rfl (1 : Int32) (hb hby at_217) (by decide)) ?_
      refine go (fun _ => XS.goto X789.here hx rfl (pc0 := 218) (pc' := 222) rfl (hb hby at_218) (by decide) (by decide)) ?_
      show Ends p e below s _ _ _ T789 (mkF m 222 #[iv i0, iv i1, iv i2, iv i3, .val (.long j4), .second, .val (.long j5), .second, iv (1 : Int32), iv xv, iv yv, iv zv, rv a751, .val (.long j4), .second, .val (.long j5), .second, .val (.long (j4 ^^^ (-1 : Int64))), .second, .val (.long (j4 ^^^ j5)), .second, rv a759] [(.int (1 : Int32))])
      exact endN X789 hx hlk hret (by simp) (hb hby at_222) e789 ⟨rfl, N789a⟩ (by decide) (by decide)
    refine go (fun _ => XS.iload X757.here hx rfl (hb hby at_35) rfl) ?_
    refine go (fun _ => XT.iconstV X757.here hx rfl (1 : Int32) (hb hby at_37) (by decide)) ?_
    show Ends p e below s _ _ _ T757 (mkF m 38 #[iv i0, iv i1, iv i2, iv i3, .val (.long j4), .second, .val (.long j5), .second, iv (1 : Int32), iv xv, iv yv, iv zv, rv a751, .unset, .unset, .unset, .unset, .unset, .unset, .unset, .unset, .unset] [(.int (1 : Int32)), (.int (1 : Int32))])
    refine go (fun _ => XS.icmpNo X757.here hx rfl (hb hby at_38) rfl (XT.ii_lt_f ((by decide) : ¬ ((1 : Int32) < (1 : Int32))))) ?_
    show Ends p e below s _ _ _ T757 (mkF m 41 #[iv i0, iv i1, iv i2, iv i3, .val (.long j4), .second, .val (.long j5), .second, iv (1 : Int32), iv xv, iv yv, iv zv, rv a751, .unset, .unset, .unset, .unset, .unset, .unset, .unset, .unset, .unset] [])
    refine go (fun _ => XS.aload X757.here hx rfl (hb hby at_41) rfl rfl) ?_
    refine go (fun _ => XS.iload X757.here hx rfl (hb hby at_43) rfl) ?_
    show Ends p e below s _ _ _ T757 (mkF m 45 #[iv i0, iv i1, iv i2, iv i3, .val (.long j4), .second, .val (.long j5), .second, iv (1 : Int32), iv xv, iv yv, iv zv, rv a751, .unset, .unset, .unset, .unset, .unset, .unset, .unset, .unset, .unset] [(.int xv), (.ref a751)])
    have nI : a751 ≠ aI := (Nat.ne_of_lt (Nat.lt_of_lt_of_le (av_11).lt f751)).symm
    have nW : a751 ≠ aW := (Nat.ne_of_lt (Nat.lt_of_lt_of_le (av_12).lt f751)).symm
    have F790 := (Exa.keep A751 K757)
    refine cVirt X757 hx hZ hown (by rw [hml]; rfl) e757 (hwi hw 17 rfl) (hwi hw 18 rfl) (hwi hw 20 rfl) (hwi hw 19 rfl) (hwi hw 2 rfl) (hwi hw 21 rfl) (notFace_of_selects (args := #[]) (mvT hZ (hwi hw 20 rfl))) a751 F790 [(.int xv)] [] rfl (rm_set0 hw a751 aI aW k_aI k_aW  xv _ O758 f751 F790 Q757_0 Q757_1 Q757_2 Q757_3 (Arv.ext av_11 O758) (Arv.ext av_12 O758) nI nW) (hb hby at_45) rfl (lenOf pd_5 rfl) (by decide) (by decide) (Nat.le_of_ble_eq_true rfl) (by decide) (by decide) ?_
    rintro v791 T791 h791 L791 X791 e791 ⟨rfl, N791, ⟨bi791, bw791, k1791, k2791, K791, ga791, gb791, nn791, Q791_0, Q791_1, Q791_2, Q791_3, Q791_4, Q791_5⟩⟩
    have N791a := Fr.app N757a N791
    have n792 : a751 ≠ bi791 := Nat.ne_of_lt (Nat.lt_of_lt_of_le (F790.lt) ga791)
    have f793 : Z.heap.size ≤ bi791 := Nat.le_trans (O758).1 ga791
    have n794 : a751 ≠ bw791 := Nat.ne_of_lt (Nat.lt_of_lt_of_le (F790.lt) gb791)
    have f795 : Z.heap.size ≤ bw791 := Nat.le_trans (O758).1 gb791
    have O796 : Ext Z.heap h791 := xk O758 K791 (allS f751 all0)
    show Ends p e below s _ _ _ T791 (mkF m 48 #[iv i0, iv i1, iv i2, iv i3, .val (.long j4), .second, .val (.long j5), .second, iv (1 : Int32), iv xv, iv yv, iv zv, rv a751, .unset, .unset, .unset, .unset, .unset, .unset, .unset, .unset, .unset] [])
    refine go (fun _ => XS.iload X791.here hx rfl (hb hby at_48) rfl) ?_
    refine go (fun _ => XT.iconstV X791.here hx rfl (2 : Int32) (hb hby at_50) (by decide)) ?_
    show Ends p e below s _ _ _ T791 (mkF m 51 #[iv i0, iv i1, iv i2, iv i3, .val (.long j4), .second, .val (.long j5), .second, iv (1 : Int32), iv xv, iv yv, iv zv, rv a751, .unset, .unset, .unset, .unset, .unset, .unset, .unset, .unset, .unset] [(.int (2 : Int32)), (.int (1 : Int32))])
    refine go (fun _ => XS.icmpYes X791.here hx rfl (pc0 := 51) (pc' := 61) rfl (hb hby at_51) rfl (XT.ii_lt_t ((by decide) : (1 : Int32) < (2 : Int32))) (by decide) (by decide)) ?_
    show Ends p e below s _ _ _ T791 (mkF m 61 #[iv i0, iv i1, iv i2, iv i3, .val (.long j4), .second, .val (.long j5), .second, iv (1 : Int32), iv xv, iv yv, iv zv, rv a751, .unset, .unset, .unset, .unset, .unset, .unset, .unset, .unset, .unset] [])
    refine go (fun _ => XS.iload X791.here hx rfl (hb hby at_61) rfl) ?_
    refine go (fun _ => XT.iconstV X791.here hx rfl (3 : Int32) (hb hby at_63) (by decide)) ?_
    show Ends p e below s _ _ _ T791 (mkF m 64 #[iv i0, iv i1, iv i2, iv i3, .val (.long j4), .second, .val (.long j5), .second, iv (1 : Int32), iv xv, iv yv, iv zv, rv a751, .unset, .unset, .unset, .unset, .unset, .unset, .unset, .unset, .unset] [(.int (3 : Int32)), (.int (1 : Int32))])
    refine go (fun _ => XS.icmpYes X791.here hx rfl (pc0 := 64) (pc' := 74) rfl (hb hby at_64) rfl (XT.ii_lt_t ((by decide) : (1 : Int32) < (3 : Int32))) (by decide) (by decide)) ?_
    show Ends p e below s _ _ _ T791 (mkF m 74 #[iv i0, iv i1, iv i2, iv i3, .val (.long j4), .second, .val (.long j5), .second, iv (1 : Int32), iv xv, iv yv, iv zv, rv a751, .unset, .unset, .unset, .unset, .unset, .unset, .unset, .unset, .unset] [])
    have e797 : (own_add (own_f j4 j5 (j4 ^^^ (-1 : Int64)) (j4 ^^^ j5)) (XT.ushr xv (6 : Int32)).toNatClampNeg ((0 : Int64) ||| ((1 : Int64) <<< (xv.toInt64 &&& 63)))) 0 = (own_acc (XT.ushr xv (6 : Int32)) (0 : Int32) j4 ((1 : Int64) <<< (xv.toInt64 &&& 63))) := by
      rw [own_addacc (own_ix hxv) (kw := (0 : Int32)) (by decide) (by decide)]
      show own_acc (XT.ushr xv (6 : Int32)) (0 : Int32) (j4) ((0 : Int64) ||| ((1 : Int64) <<< (xv.toInt64 &&& 63))) = _
      (try simp only [own_z]) <;> by_cases uxv : XT.ushr xv (6 : Int32) = (0 : Int32) <;> simp [own_acc, uxv, Int64.or_assoc, Int64.or_comm, own_orl]
    have e798 : (own_add (own_f j4 j5 (j4 ^^^ (-1 : Int64)) (j4 ^^^ j5)) (XT.ushr xv (6 : Int32)).toNatClampNeg ((0 : Int64) ||| ((1 : Int64) <<< (xv.toInt64 &&& 63)))) 1 = (own_acc (XT.ushr xv (6 : Int32)) (1 : Int32) j5 ((1 : Int64) <<< (xv.toInt64 &&& 63))) := by
      rw [own_addacc (own_ix hxv) (kw := (1 : Int32)) (by decide) (by decide)]
      show own_acc (XT.ushr xv (6 : Int32)) (1 : Int32) (j5) ((0 : Int64) ||| ((1 : Int64) <<< (xv.toInt64 &&& 63))) = _
      (try simp only [own_z]) <;> by_cases uxv : XT.ushr xv (6 : Int32) = (1 : Int32) <;> simp [own_acc, uxv, Int64.or_assoc, Int64.or_comm, own_orl]
    have e799 : (own_add (own_f j4 j5 (j4 ^^^ (-1 : Int64)) (j4 ^^^ j5)) (XT.ushr xv (6 : Int32)).toNatClampNeg ((0 : Int64) ||| ((1 : Int64) <<< (xv.toInt64 &&& 63)))) 2 = (own_acc (XT.ushr xv (6 : Int32)) (2 : Int32) (j4 ^^^ (-1 : Int64)) ((1 : Int64) <<< (xv.toInt64 &&& 63))) := by
      rw [own_addacc (own_ix hxv) (kw := (2 : Int32)) (by decide) (by decide)]
      show own_acc (XT.ushr xv (6 : Int32)) (2 : Int32) ((j4 ^^^ (-1 : Int64))) ((0 : Int64) ||| ((1 : Int64) <<< (xv.toInt64 &&& 63))) = _
      (try simp only [own_z]) <;> by_cases uxv : XT.ushr xv (6 : Int32) = (2 : Int32) <;> simp [own_acc, uxv, Int64.or_assoc, Int64.or_comm, own_orl]
    have e800 : (own_add (own_f j4 j5 (j4 ^^^ (-1 : Int64)) (j4 ^^^ j5)) (XT.ushr xv (6 : Int32)).toNatClampNeg ((0 : Int64) ||| ((1 : Int64) <<< (xv.toInt64 &&& 63)))) 3 = (own_acc (XT.ushr xv (6 : Int32)) (3 : Int32) (j4 ^^^ j5) ((1 : Int64) <<< (xv.toInt64 &&& 63))) := by
      rw [own_addacc (own_ix hxv) (kw := (3 : Int32)) (by decide) (by decide)]
      show own_acc (XT.ushr xv (6 : Int32)) (3 : Int32) ((j4 ^^^ j5)) ((0 : Int64) ||| ((1 : Int64) <<< (xv.toInt64 &&& 63))) = _
      (try simp only [own_z]) <;> by_cases uxv : XT.ushr xv (6 : Int32) = (3 : Int32) <;> simp [own_acc, uxv, Int64.or_assoc, Int64.or_comm, own_orl]
    have F801 := (Exa.keep F790 K791)
    exact J1_1_0 _ _ _ bi791 bw791 k1791 k2791 (XT.ushr xv (6 : Int32)) ((0 : Int64) ||| ((1 : Int64) <<< (xv.toInt64 &&& 63))) (X791.more (by decide) (by decide)) e791 O796 N791a F801 Q791_0 Q791_1 Q791_2 Q791_3 Q791_4 Q791_5 f793 f795 n792 n794 nn791 (own_ix hxv) e797 e798 e799 e800
  · rw [q]
    show Ends p e below s _ _ _ T0 (mkF m 3 #[iv i0, iv i1, iv i2, iv i3, .val (.long j4), .second, .val (.long j5), .second, .unset, .unset, .unset, .unset, .unset, .unset, .unset, .unset, .unset, .unset, .unset, .unset, .unset, .unset] [(.int (2 : Int32))])
    refine go (fun _ => XS.istore X0.here hx rfl (hb hby at_3) rfl (l' := #[iv i0, iv i1, iv i2, iv i3, .val (.long j4), .second, .val (.long j5), .second, iv (2 : Int32), .unset, .unset, .unset, .unset, .unset, .unset, .unset, .unset, .unset, .unset, .unset, .unset, .unset]) rfl) ?_
    refine go (fun _ => XS.iloadN X0.here hx rfl (hb hby at_5) rfl) ?_
    refine go (fun _ => XT.sipushV X0.here hx rfl (255 : Int32) (hb hby at_6) (by decide)) ?_
    refine go (fun _ => XS.iand X0.here hx rfl (hb hby at_9) rfl) ?_
    show Ends p e below s _ _ _ T0 (mkF m 10 #[iv i0, iv i1, iv i2, iv i3, .val (.long j4), .second, .val (.long j5), .second, iv (2 : Int32), .unset, .unset, .unset, .unset, .unset, .unset, .unset, .unset, .unset, .unset, .unset, .unset, .unset] [(.int (i0 &&& (255 : Int32)))])
    obtain ⟨xv, hxv⟩ : ∃ z : Int32, z = (i0 &&& (255 : Int32)) := ⟨_, rfl⟩
    rw [← hxv]
    show Ends p e below s _ _ _ T0 (mkF m 10 #[iv i0, iv i1, iv i2, iv i3, .val (.long j4), .second, .val (.long j5), .second, iv (2 : Int32), .unset, .unset, .unset, .unset, .unset, .unset, .unset, .unset, .unset, .unset, .unset, .unset, .unset] [(.int xv)])
    refine go (fun _ => XS.istore X0.here hx rfl (hb hby at_10) rfl (l' := #[iv i0, iv i1, iv i2, iv i3, .val (.long j4), .second, .val (.long j5), .second, iv (2 : Int32), iv xv, .unset, .unset, .unset, .unset, .unset, .unset, .unset, .unset, .unset, .unset, .unset, .unset]) rfl) ?_
    refine go (fun _ => XS.iloadN X0.here hx rfl (hb hby at_12) rfl) ?_
    refine go (fun _ => XT.sipushV X0.here hx rfl (255 : Int32) (hb hby at_13) (by decide)) ?_
    refine go (fun _ => XS.iand X0.here hx rfl (hb hby at_16) rfl) ?_
    show Ends p e below s _ _ _ T0 (mkF m 17 #[iv i0, iv i1, iv i2, iv i3, .val (.long j4), .second, .val (.long j5), .second, iv (2 : Int32), iv xv, .unset, .unset, .unset, .unset, .unset, .unset, .unset, .unset, .unset, .unset, .unset, .unset] [(.int (i1 &&& (255 : Int32)))])
    obtain ⟨yv, hyv⟩ : ∃ z : Int32, z = (i1 &&& (255 : Int32)) := ⟨_, rfl⟩
    rw [← hyv]
    show Ends p e below s _ _ _ T0 (mkF m 17 #[iv i0, iv i1, iv i2, iv i3, .val (.long j4), .second, .val (.long j5), .second, iv (2 : Int32), iv xv, .unset, .unset, .unset, .unset, .unset, .unset, .unset, .unset, .unset, .unset, .unset, .unset] [(.int yv)])
    refine go (fun _ => XS.istore X0.here hx rfl (hb hby at_17) rfl (l' := #[iv i0, iv i1, iv i2, iv i3, .val (.long j4), .second, .val (.long j5), .second, iv (2 : Int32), iv xv, iv yv, .unset, .unset, .unset, .unset, .unset, .unset, .unset, .unset, .unset, .unset, .unset]) rfl) ?_
    refine go (fun _ => XS.iloadN X0.here hx rfl (hb hby at_19) rfl) ?_
    refine go (fun _ => XT.sipushV X0.here hx rfl (255 : Int32) (hb hby at_20) (by decide)) ?_
    refine go (fun _ => XS.iand X0.here hx rfl (hb hby at_23) rfl) ?_
    show Ends p e below s _ _ _ T0 (mkF m 24 #[iv i0, iv i1, iv i2, iv i3, .val (.long j4), .second, .val (.long j5), .second, iv (2 : Int32), iv xv, iv yv, .unset, .unset, .unset, .unset, .unset, .unset, .unset, .unset, .unset, .unset, .unset] [(.int (i2 &&& (255 : Int32)))])
    obtain ⟨zv, hzv⟩ : ∃ z : Int32, z = (i2 &&& (255 : Int32)) := ⟨_, rfl⟩
    rw [← hzv]
    show Ends p e below s _ _ _ T0 (mkF m 24 #[iv i0, iv i1, iv i2, iv i3, .val (.long j4), .second, .val (.long j5), .second, iv (2 : Int32), iv xv, iv yv, .unset, .unset, .unset, .unset, .unset, .unset, .unset, .unset, .unset, .unset, .unset] [(.int zv)])
    refine go (fun _ => XS.istore X0.here hx rfl (hb hby at_24) rfl (l' := #[iv i0, iv i1, iv i2, iv i3, .val (.long j4), .second, .val (.long j5), .second, iv (2 : Int32), iv xv, iv yv, iv zv, .unset, .unset, .unset, .unset, .unset, .unset, .unset, .unset, .unset, .unset]) rfl) ?_
    show Ends p e below s _ _ _ T0 (mkF m 26 #[iv i0, iv i1, iv i2, iv i3, .val (.long j4), .second, .val (.long j5), .second, iv (2 : Int32), iv xv, iv yv, iv zv, .unset, .unset, .unset, .unset, .unset, .unset, .unset, .unset, .unset, .unset] [])
    obtain ⟨T802, h802, X802, e802, E802, A802, D802, U802, s802⟩ := newO X0 hx hZ hown (hwi hw 0 rfl) (hwi hw 1 rfl) (hwi hw 2 rfl) e0 (g := (mkF m 26 #[iv i0, iv i1, iv i2, iv i3, .val (.long j4), .second, .val (.long j5), .second, iv (2 : Int32), iv xv, iv yv, iv zv, .unset, .unset, .unset, .unset, .unset, .unset, .unset, .unset, .unset, .unset] [])) rfl (hb hby at_26) (by decide) (by decide)
    obtain ⟨a802, g802⟩ : ∃ z : Addr, z = h0.size := ⟨_, rfl⟩
    have f802 : Z.heap.size ≤ a802 := by rw [g802]; exact (O0).1
    rw [← g802] at A802 D802 U802 s802
    have O803 : Ext Z.heap h802 := xx O0 E802
    refine go s802 ?_
    show Ends p e below s _ _ _ T802 (mkF m 29 #[iv i0, iv i1, iv i2, iv i3, .val (.long j4), .second, .val (.long j5), .second, iv (2 : Int32), iv xv, iv yv, iv zv, .unset, .unset, .unset, .unset, .unset, .unset, .unset, .unset, .unset, .unset] [(.ref a802)])
    refine go (fun _ => XS.dup X802.here hx rfl (hb hby at_29) rfl rfl) ?_
    show Ends p e below s _ _ _ T802 (mkF m 30 #[iv i0, iv i1, iv i2, iv i3, .val (.long j4), .second, .val (.long j5), .second, iv (2 : Int32), iv xv, iv yv, iv zv, .unset, .unset, .unset, .unset, .unset, .unset, .unset, .unset, .unset, .unset] [(.ref a802), (.ref a802)])
    have F804 := (D802 (Or.inl (hwi hw 12 rfl)) (ty := (.array .int)) (by decide))
    have F805 := (D802 (Or.inl (hwi hw 16 rfl)) (ty := (.array .long)) (by decide))
    have F806 := (D802 (Or.inl (hwi hw 29 rfl)) (ty := .int) (by decide))
    have F807 := (D802 (Or.inl (hwi hw 27 rfl)) (ty := .int) (by decide))
    refine cInit X802 hx hZ hown (by rw [hml]; rfl) e802 (hwi hw 3 rfl) (hwi hw 4 rfl) (hwi hw 2 rfl) (hwi hw 5 rfl) a802 [] [(.ref a802)] rfl (rm_sbinit hw a802 aI aW _ O803 f802 A802 F804 F805 F806 F807 ft_2 ft_7) (hb hby at_30) rfl (lenOf pd_11 rfl) rfl (by decide) (by decide) (Nat.le_of_ble_eq_true rfl) (by decide) (by decide) ?_
    rintro v808 T808 h808 L808 X808 e808 ⟨rfl, N808, K808, Q808_0, Q808_1, Q808_2, Q808_3⟩
    have N808a := Fr.app (Fr.nil _) N808
    have O809 : Ext Z.heap h808 := xk O803 K808 (allS f802 all0)
    show Ends p e below s _ _ _ T808 (mkF m 33 #[iv i0, iv i1, iv i2, iv i3, .val (.long j4), .second, .val (.long j5), .second, iv (2 : Int32), iv xv, iv yv, iv zv, .unset, .unset, .unset, .unset, .unset, .unset, .unset, .unset, .unset, .unset] [(.ref a802)])
    refine go (fun _ => XS.astore X808.here hx rfl (hb hby at_33) rfl rfl (l' := #[iv i0, iv i1, iv i2, iv i3, .val (.long j4), .second, .val (.long j5), .second, iv (2 : Int32), iv xv, iv yv, iv zv, rv a802, .unset, .unset, .unset, .unset, .unset, .unset, .unset, .unset, .unset]) rfl) ?_
    show Ends p e below s _ _ _ T808 (mkF m 35 #[iv i0, iv i1, iv i2, iv i3, .val (.long j4), .second, .val (.long j5), .second, iv (2 : Int32), iv xv, iv yv, iv zv, rv a802, .unset, .unset, .unset, .unset, .unset, .unset, .unset, .unset, .unset] [])
    have J2_1_0 : ∀ (TJ : State) (hJ : Heap) (LJ : List Loc) (aiJ awJ : Addr) (kiJ kwJ : ClassId) (ij0 : Int32) (wj0 : Int64) (XJ : Stand p l e room_1 s m #[(.int i0), (.int i1), (.int i2), (.int i3), (.long j4), (.long j5)] below meth c TJ LJ 8 64) (eJ : TJ.heap = hJ) (OJ : Ext Z.heap hJ) (NJ : Fr Z.heap.size LJ) (EJ : Exa Z hJ a802 "com/example/libtbox/libtbox/core/SparseBitSet") (PJ0 : Fld Z hJ a802 "com/example/libtbox/libtbox/core/SparseBitSet" "indices" "[I" (.ref aiJ)) (PJ1 : Fld Z hJ a802 "com/example/libtbox/libtbox/core/SparseBitSet" "words" "[J" (.ref awJ)) (PJ2 : Fld Z hJ a802 "com/example/libtbox/libtbox/core/SparseBitSet" "count" "I" (.int (1 : Int32))) (PJ3 : Fld Z hJ a802 "com/example/libtbox/libtbox/core/SparseBitSet" "lastFound" "I" (.int (0 : Int32))) (PJ4 : Arv Z hJ aiJ kiJ .int (2 : Int32) [(.int ij0), (.int (0 : Int32))] (.int 0)) (PJ5 : Arv Z hJ awJ kwJ .long (2 : Int32) [(.long wj0), (.long (0 : Int64))] (.long 0)) (fiJ : Z.heap.size ≤ aiJ) (fwJ : Z.heap.size ≤ awJ) (n1J : a802 ≠ aiJ) (n2J : a802 ≠ awJ) (n3J : aiJ ≠ awJ) (gj0 : ¬ ij0 < 0 ∧ ij0 < 4) (qj0 : ((own_add (own_f j4 j5 (j4 ^^^ (-1 : Int64)) (j4 ^^^ j5)) ij0.toNatClampNeg wj0) 0) = (own_acc (XT.ushr yv (6 : Int32)) (0 : Int32) (own_acc (XT.ushr xv (6 : Int32)) (0 : Int32) j4 ((1 : Int64) <<< (xv.toInt64 &&& 63))) ((1 : Int64) <<< (yv.toInt64 &&& 63)))) (qj1 : ((own_add (own_f j4 j5 (j4 ^^^ (-1 : Int64)) (j4 ^^^ j5)) ij0.toNatClampNeg wj0) 1) = (own_acc (XT.ushr yv (6 : Int32)) (1 : Int32) (own_acc (XT.ushr xv (6 : Int32)) (1 : Int32) j5 ((1 : Int64) <<< (xv.toInt64 &&& 63))) ((1 : Int64) <<< (yv.toInt64 &&& 63)))) (qj2 : ((own_add (own_f j4 j5 (j4 ^^^ (-1 : Int64)) (j4 ^^^ j5)) ij0.toNatClampNeg wj0) 2) = (own_acc (XT.ushr yv (6 : Int32)) (2 : Int32) (own_acc (XT.ushr xv (6 : Int32)) (2 : Int32) (j4 ^^^ (-1 : Int64)) ((1 : Int64) <<< (xv.toInt64 &&& 63))) ((1 : Int64) <<< (yv.toInt64 &&& 63)))) (qj3 : ((own_add (own_f j4 j5 (j4 ^^^ (-1 : Int64)) (j4 ^^^ j5)) ij0.toNatClampNeg wj0) 3) = (own_acc (XT.ushr yv (6 : Int32)) (3 : Int32) (own_acc (XT.ushr xv (6 : Int32)) (3 : Int32) (j4 ^^^ j5) ((1 : Int64) <<< (xv.toInt64 &&& 63))) ((1 : Int64) <<< (yv.toInt64 &&& 63)))), Ends p e below s (fun v h L => v = some (.int 1) ∧ Fr Z.heap.size L) room_1.cells room_1.slots TJ (mkF m 74 #[iv i0, iv i1, iv i2, iv i3, .val (.long j4), .second, .val (.long j5), .second, iv (2 : Int32), iv xv, iv yv, iv zv, rv a802, .unset, .unset, .unset, .unset, .unset, .unset, .unset, .unset, .unset] []) := by
      intro TJ hJ LJ aiJ awJ kiJ kwJ ij0 wj0 XJ eJ OJ NJ EJ PJ0 PJ1 PJ2 PJ3 PJ4 PJ5 fiJ fwJ n1J n2J n3J gj0 qj0 qj1 qj2 qj3
      refine go (fun _ => XT.lload XJ.here hx rfl (hb hby at_74) rfl) ?_
      refine go (fun _ => XT.lstore XJ.here hx rfl (hb hby at_76) rfl (l' := #[iv i0, iv i1, iv i2, iv i3, .val (.long j4), .second, .val (.long j5), .second, iv (2 : Int32), iv xv, iv yv, iv zv, rv a802, .val (.long j4), .second, .unset, .unset, .unset, .unset, .unset, .unset, .unset]) rfl) ?_
      refine go (fun _ => XT.lload XJ.here hx rfl (hb hby at_78) rfl) ?_
      refine go (fun _ => XT.lstore XJ.here hx rfl (hb hby at_80) rfl (l' := #[iv i0, iv i1, iv i2, iv i3, .val (.long j4), .second, .val (.long j5), .second, iv (2 : Int32), iv xv, iv yv, iv zv, rv a802, .val (.long j4), .second, .val (.long j5), .second, .unset, .unset, .unset, .unset, .unset]) rfl) ?_
      refine go (fun _ => XT.lload XJ.here hx rfl (hb hby at_82) rfl) ?_
      show Ends p e below s _ _ _ TJ (mkF m 84 #[iv i0, iv i1, iv i2, iv i3, .val (.long j4), .second, .val (.long j5), .second, iv (2 : Int32), iv xv, iv yv, iv zv, rv a802, .val (.long j4), .second, .val (.long j5), .second, .unset, .unset, .unset, .unset, .unset] [(.long j4)])
      refine go (fun _ => Jvm.Stand.ldc2J XJ hx hown (mvT hZ (hwi hw 59 rfl)) rfl (hb hby at_84)) ?_
      show Ends p e below s _ _ _ TJ (mkF m 87 #[iv i0, iv i1, iv i2, iv i3, .val (.long j4), .second, .val (.long j5), .second, iv (2 : Int32), iv xv, iv yv, iv zv, rv a802, .val (.long j4), .second, .val (.long j5), .second, .unset, .unset, .unset, .unset, .unset] [(.long (-1 : Int64)), (.long j4)])
      refine go (fun _ => XT.lxor XJ.here hx rfl (hb hby at_87) rfl) ?_
      refine go (fun _ => XT.lstore XJ.here hx rfl (hb hby at_88) rfl (l' := #[iv i0, iv i1, iv i2, iv i3, .val (.long j4), .second, .val (.long j5), .second, iv (2 : Int32), iv xv, iv yv, iv zv, rv a802, .val (.long j4), .second, .val (.long j5), .second, .val (.long (j4 ^^^ (-1 : Int64))), .second, .unset, .unset, .unset]) rfl) ?_
      refine go (fun _ => XT.lload XJ.here hx rfl (hb hby at_90) rfl) ?_
      refine go (fun _ => XT.lload XJ.here hx rfl (hb hby at_92) rfl) ?_
      refine go (fun _ => XT.lxor XJ.here hx rfl (hb hby at_94) rfl) ?_
      refine go (fun _ => XT.lstore XJ.here hx rfl (hb hby at_95) rfl (l' := #[iv i0, iv i1, iv i2, iv i3, .val (.long j4), .second, .val (.long j5), .second, iv (2 : Int32), iv xv, iv yv, iv zv, rv a802, .val (.long j4), .second, .val (.long j5), .second, .val (.long (j4 ^^^ (-1 : Int64))), .second, .val (.long (j4 ^^^ j5)), .second, .unset]) rfl) ?_
      show Ends p e below s _ _ _ TJ (mkF m 97 #[iv i0, iv i1, iv i2, iv i3, .val (.long j4), .second, .val (.long j5), .second, iv (2 : Int32), iv xv, iv yv, iv zv, rv a802, .val (.long j4), .second, .val (.long j5), .second, .val (.long (j4 ^^^ (-1 : Int64))), .second, .val (.long (j4 ^^^ j5)), .second, .unset] [])
      refine go (fun _ => XT.iconstV XJ.here hx rfl (4 : Int32) (hb hby at_97) (by decide)) ?_
      show Ends p e below s _ _ _ TJ (mkF m 98 #[iv i0, iv i1, iv i2, iv i3, .val (.long j4), .second, .val (.long j5), .second, iv (2 : Int32), iv xv, iv yv, iv zv, rv a802, .val (.long j4), .second, .val (.long j5), .second, .val (.long (j4 ^^^ (-1 : Int64))), .second, .val (.long (j4 ^^^ j5)), .second, .unset] [(.int (4 : Int32))])
      obtain ⟨T810, h810, k810, X810, e810, E810, A810, s810⟩ := newP XJ hx hZ (hwi hw 57 rfl) eJ (g := (mkF m 98 #[iv i0, iv i1, iv i2, iv i3, .val (.long j4), .second, .val (.long j5), .second, iv (2 : Int32), iv xv, iv yv, iv zv, rv a802, .val (.long j4), .second, .val (.long j5), .second, .val (.long (j4 ^^^ (-1 : Int64))), .second, .val (.long (j4 ^^^ j5)), .second, .unset] [(.int (4 : Int32))])) rfl (hb hby at_98) rfl (by decide) (cap := 4) (by decide) (by decide) (by decide) (by decide)
      obtain ⟨a810, g810⟩ : ∃ z : Addr, z = hJ.size := ⟨_, rfl⟩
      have n811 : a802 ≠ a810 := fun q => absurd (EJ.lt) (by rw [q, g810]; exact Nat.lt_irrefl _)
      have n812 : aiJ ≠ a810 := fun q => absurd (PJ4.lt) (by rw [q, g810]; exact Nat.lt_irrefl _)
      have n813 : awJ ≠ a810 := fun q => absurd (PJ5.lt) (by rw [q, g810]; exact Nat.lt_irrefl _)
      have f810 : Z.heap.size ≤ a810 := by rw [g810]; exact (OJ).1
      rw [← g810] at A810 s810
      have O814 : Ext Z.heap h810 := xx OJ E810
      have V810 : Arv Z h810 a810 k810 .long (4 : Int32) [(.long (0 : Int64)), (.long (0 : Int64)), (.long (0 : Int64)), (.long (0 : Int64))] (.long 0) := Arv.pad (Arv.new A810 (by decide)) (pad_rep [] _ 4)
      refine go s810 ?_
      show Ends p e below s _ _ _ T810 (mkF m 100 #[iv i0, iv i1, iv i2, iv i3, .val (.long j4), .second, .val (.long j5), .second, iv (2 : Int32), iv xv, iv yv, iv zv, rv a802, .val (.long j4), .second, .val (.long j5), .second, .val (.long (j4 ^^^ (-1 : Int64))), .second, .val (.long (j4 ^^^ j5)), .second, .unset] [(.ref a810)])
      refine go (fun _ => XS.dup X810.here hx rfl (hb hby at_100) rfl rfl) ?_
      refine go (fun _ => XT.iconstV X810.here hx rfl (0 : Int32) (hb hby at_101) (by decide)) ?_
      refine go (fun _ => XT.lload X810.here hx rfl (hb hby at_102) rfl) ?_
      show Ends p e below s _ _ _ T810 (mkF m 104 #[iv i0, iv i1, iv i2, iv i3, .val (.long j4), .second, .val (.long j5), .second, iv (2 : Int32), iv xv, iv yv, iv zv, rv a802, .val (.long j4), .second, .val (.long j5), .second, .val (.long (j4 ^^^ (-1 : Int64))), .second, .val (.long (j4 ^^^ j5)), .second, .unset] [(.long j4), (.int (0 : Int32)), (.ref a810), (.ref a810)])
      obtain ⟨cl815, A815, q815, S815, M815, H815, G815⟩ := id V810
      obtain ⟨T815, h815, X815, e815, W815, s815⟩ := stJ X810 hx hZ e810 A815 (j := (0 : Int32)) (inb_of S815 (by decide)) (g := (mkF m 104 #[iv i0, iv i1, iv i2, iv i3, .val (.long j4), .second, .val (.long j5), .second, iv (2 : Int32), iv xv, iv yv, iv zv, rv a802, .val (.long j4), .second, .val (.long j5), .second, .val (.long (j4 ^^^ (-1 : Int64))), .second, .val (.long (j4 ^^^ j5)), .second, .unset] [(.long j4), (.int (0 : Int32)), (.ref a810), (.ref a810)])) rfl rfl (hb hby at_104)
      have N815 := Fr.snoc X815 NJ f810
      have O816 : Ext Z.heap h815 := xw O814 W815 f810
      have V815 : Arv Z h815 a810 k810 .long (4 : Int32) [(.long j4), (.long (0 : Int64)), (.long (0 : Int64)), (.long (0 : Int64))] (.long 0) := Arv.set A815 q815 S815 M815 H815 G815 rfl W815 0 (by decide) (Nat.le_of_ble_eq_true rfl)
      refine go s815 ?_
      show Ends p e below s _ _ _ T815 (mkF m 105 #[iv i0, iv i1, iv i2, iv i3, .val (.long j4), .second, .val (.long j5), .second, iv (2 : Int32), iv xv, iv yv, iv zv, rv a802, .val (.long j4), .second, .val (.long j5), .second, .val (.long (j4 ^^^ (-1 : Int64))), .second, .val (.long (j4 ^^^ j5)), .second, .unset] [(.ref a810)])
      refine go (fun _ => XS.dup X815.here hx rfl (hb hby at_105) rfl rfl) ?_
      refine go (fun _ => XT.iconstV X815.here hx rfl (1 : Int32) (hb hby at_106) (by decide)) ?_
      refine go (fun _ => XT.lload X815.here hx rfl (hb hby at_107) rfl) ?_
      show Ends p e below s _ _ _ T815 (mkF m 109 #[iv i0, iv i1, iv i2, iv i3, .val (.long j4), .second, .val (.long j5), .second, iv (2 : Int32), iv xv, iv yv, iv zv, rv a802, .val (.long j4), .second, .val (.long j5), .second, .val (.long (j4 ^^^ (-1 : Int64))), .second, .val (.long (j4 ^^^ j5)), .second, .unset] [(.long j5), (.int (1 : Int32)), (.ref a810), (.ref a810)])
      obtain ⟨cl817, A817, q817, S817, M817, H817, G817⟩ := id V815
      obtain ⟨T817, h817, X817, e817, W817, s817⟩ := stJ X815 hx hZ e815 A817 (j := (1 : Int32)) (inb_of S817 (by decide)) (g := (mkF m 109 #[iv i0, iv i1, iv i2, iv i3, .val (.long j4), .second, .val (.long j5), .second, iv (2 : Int32), iv xv, iv yv, iv zv, rv a802, .val (.long j4), .second, .val (.long j5), .second, .val (.long (j4 ^^^ (-1 : Int64))), .second, .val (.long (j4 ^^^ j5)), .second, .unset] [(.long j5), (.int (1 : Int32)), (.ref a810), (.ref a810)])) rfl rfl (hb hby at_109)
      have N817 := Fr.snoc X817 N815 f810
      have O818 : Ext Z.heap h817 := xw O816 W817 f810
      have V817 : Arv Z h817 a810 k810 .long (4 : Int32) [(.long j4), (.long j5), (.long (0 : Int64)), (.long (0 : Int64))] (.long 0) := Arv.set A817 q817 S817 M817 H817 G817 rfl W817 1 (by decide) (Nat.le_of_ble_eq_true rfl)
      refine go s817 ?_
      show Ends p e below s _ _ _ T817 (mkF m 110 #[iv i0, iv i1, iv i2, iv i3, .val (.long j4), .second, .val (.long j5), .second, iv (2 : Int32), iv xv, iv yv, iv zv, rv a802, .val (.long j4), .second, .val (.long j5), .second, .val (.long (j4 ^^^ (-1 : Int64))), .second, .val (.long (j4 ^^^ j5)), .second, .unset] [(.ref a810)])
      refine go (fun _ => XS.dup X817.here hx rfl (hb hby at_110) rfl rfl) ?_
      refine go (fun _ => XT.iconstV X817.here hx rfl (2 : Int32) (hb hby at_111) (by decide)) ?_
      refine go (fun _ => XT.lload X817.here hx rfl (hb hby at_112) rfl) ?_
      show Ends p e below s _ _ _ T817 (mkF m 114 #[iv i0, iv i1, iv i2, iv i3, .val (.long j4), .second, .val (.long j5), .second, iv (2 : Int32), iv xv, iv yv, iv zv, rv a802, .val (.long j4), .second, .val (.long j5), .second, .val (.long (j4 ^^^ (-1 : Int64))), .second, .val (.long (j4 ^^^ j5)), .second, .unset] [(.long (j4 ^^^ (-1 : Int64))), (.int (2 : Int32)), (.ref a810), (.ref a810)])
      obtain ⟨cl819, A819, q819, S819, M819, H819, G819⟩ := id V817
      obtain ⟨T819, h819, X819, e819, W819, s819⟩ := stJ X817 hx hZ e817 A819 (j := (2 : Int32)) (inb_of S819 (by decide)) (g := (mkF m 114 #[iv i0, iv i1, iv i2, iv i3, .val (.long j4), .second, .val (.long j5), .second, iv (2 : Int32), iv xv, iv yv, iv zv, rv a802, .val (.long j4), .second, .val (.long j5), .second, .val (.long (j4 ^^^ (-1 : Int64))), .second, .val (.long (j4 ^^^ j5)), .second, .unset] [(.long (j4 ^^^ (-1 : Int64))), (.int (2 : Int32)), (.ref a810), (.ref a810)])) rfl rfl (hb hby at_114)
      have N819 := Fr.snoc X819 N817 f810
      have O820 : Ext Z.heap h819 := xw O818 W819 f810
      have V819 : Arv Z h819 a810 k810 .long (4 : Int32) [(.long j4), (.long j5), (.long (j4 ^^^ (-1 : Int64))), (.long (0 : Int64))] (.long 0) := Arv.set A819 q819 S819 M819 H819 G819 rfl W819 2 (by decide) (Nat.le_of_ble_eq_true rfl)
      refine go s819 ?_
      show Ends p e below s _ _ _ T819 (mkF m 115 #[iv i0, iv i1, iv i2, iv i3, .val (.long j4), .second, .val (.long j5), .second, iv (2 : Int32), iv xv, iv yv, iv zv, rv a802, .val (.long j4), .second, .val (.long j5), .second, .val (.long (j4 ^^^ (-1 : Int64))), .second, .val (.long (j4 ^^^ j5)), .second, .unset] [(.ref a810)])
      refine go (fun _ => XS.dup X819.here hx rfl (hb hby at_115) rfl rfl) ?_
      refine go (fun _ => XT.iconstV X819.here hx rfl (3 : Int32) (hb hby at_116) (by decide)) ?_
      refine go (fun _ => XT.lload X819.here hx rfl (hb hby at_117) rfl) ?_
      show Ends p e below s _ _ _ T819 (mkF m 119 #[iv i0, iv i1, iv i2, iv i3, .val (.long j4), .second, .val (.long j5), .second, iv (2 : Int32), iv xv, iv yv, iv zv, rv a802, .val (.long j4), .second, .val (.long j5), .second, .val (.long (j4 ^^^ (-1 : Int64))), .second, .val (.long (j4 ^^^ j5)), .second, .unset] [(.long (j4 ^^^ j5)), (.int (3 : Int32)), (.ref a810), (.ref a810)])
      obtain ⟨cl821, A821, q821, S821, M821, H821, G821⟩ := id V819
      obtain ⟨T821, h821, X821, e821, W821, s821⟩ := stJ X819 hx hZ e819 A821 (j := (3 : Int32)) (inb_of S821 (by decide)) (g := (mkF m 119 #[iv i0, iv i1, iv i2, iv i3, .val (.long j4), .second, .val (.long j5), .second, iv (2 : Int32), iv xv, iv yv, iv zv, rv a802, .val (.long j4), .second, .val (.long j5), .second, .val (.long (j4 ^^^ (-1 : Int64))), .second, .val (.long (j4 ^^^ j5)), .second, .unset] [(.long (j4 ^^^ j5)), (.int (3 : Int32)), (.ref a810), (.ref a810)])) rfl rfl (hb hby at_119)
      have N821 := Fr.snoc X821 N819 f810
      have O822 : Ext Z.heap h821 := xw O820 W821 f810
      have V821 : Arv Z h821 a810 k810 .long (4 : Int32) [(.long j4), (.long j5), (.long (j4 ^^^ (-1 : Int64))), (.long (j4 ^^^ j5))] (.long 0) := Arv.set A821 q821 S821 M821 H821 G821 rfl W821 3 (by decide) (Nat.le_of_ble_eq_true rfl)
      refine go s821 ?_
      show Ends p e below s _ _ _ T821 (mkF m 120 #[iv i0, iv i1, iv i2, iv i3, .val (.long j4), .second, .val (.long j5), .second, iv (2 : Int32), iv xv, iv yv, iv zv, rv a802, .val (.long j4), .second, .val (.long j5), .second, .val (.long (j4 ^^^ (-1 : Int64))), .second, .val (.long (j4 ^^^ j5)), .second, .unset] [(.ref a810)])
      refine go (fun _ => XS.astore X821.here hx rfl (hb hby at_120) rfl rfl (l' := #[iv i0, iv i1, iv i2, iv i3, .val (.long j4), .second, .val (.long j5), .second, iv (2 : Int32), iv xv, iv yv, iv zv, rv a802, .val (.long j4), .second, .val (.long j5), .second, .val (.long (j4 ^^^ (-1 : Int64))), .second, .val (.long (j4 ^^^ j5)), .second, rv a810]) rfl) ?_
      refine go (fun _ => XS.aload X821.here hx rfl (hb hby at_122) rfl rfl) ?_
      refine go (fun _ => XS.aload X821.here hx rfl (hb hby at_124) rfl rfl) ?_
      show Ends p e below s _ _ _ T821 (mkF m 126 #[iv i0, iv i1, iv i2, iv i3, .val (.long j4), .second, .val (.long j5), .second, iv (2 : Int32), iv xv, iv yv, iv zv, rv a802, .val (.long j4), .second, .val (.long j5), .second, .val (.long (j4 ^^^ (-1 : Int64))), .second, .val (.long (j4 ^^^ j5)), .second, rv a810] [(.ref a810), (.ref a802)])
      have F823 := (Fld.other W821 (Fld.other W819 (Fld.other W817 (Fld.other W815 (Fld.ext E810 PJ0) (Or.inl n811)) (Or.inl n811)) (Or.inl n811)) (Or.inl n811))
      have F824 := (Fld.other W821 (Fld.other W819 (Fld.other W817 (Fld.other W815 (Fld.ext E810 PJ1) (Or.inl n811)) (Or.inl n811)) (Or.inl n811)) (Or.inl n811))
      have F825 := (Fld.other W821 (Fld.other W819 (Fld.other W817 (Fld.other W815 (Fld.ext E810 PJ2) (Or.inl n811)) (Or.inl n811)) (Or.inl n811)) (Or.inl n811))
      have F826 := (Fld.other W821 (Fld.other W819 (Fld.other W817 (Fld.other W815 (Fld.ext E810 PJ3) (Or.inl n811)) (Or.inl n811)) (Or.inl n811)) (Or.inl n811))
      have F827 := (Arv.other (Arv.other (Arv.other (Arv.other (Arv.ext PJ4 E810) W815 n812) W817 n812) W819 n812) W821 n812)
      have F828 := (Arv.other (Arv.other (Arv.other (Arv.other (Arv.ext PJ5 E810) W815 n813) W817 n813) W819 n813) W821 n813)
      have F829 := (Exa.wr W821 (Exa.wr W819 (Exa.wr W817 (Exa.wr W815 (Exa.ext E810 EJ)))))
      have VL830 : Arv Z h821 a810 k810 .long (4 : Int32) (own_b (own_f j4 j5 (j4 ^^^ (-1 : Int64)) (j4 ^^^ j5))) (.long 0) := V821
      refine cVirt X821 hx hZ hown (by rw [hml]; rfl) e821 (hwi hw 60 rfl) (hwi hw 61 rfl) (hwi hw 63 rfl) (hwi hw 62 rfl) (hwi hw 2 rfl) (hwi hw 64 rfl) (notFace_of_selects (args := #[]) (mvT hZ (hwi hw 63 rfl))) a802 F829 [(.ref a810)] [] rfl (rm_add1_0 hw a802 aiJ awJ kiJ kwJ ij0 wj0 a810 k810 (own_f j4 j5 (j4 ^^^ (-1 : Int64)) (j4 ^^^ j5)) _ O822 f802 F829 F823 F824 F825 F826 F827 F828 fiJ fwJ n1J n2J n3J VL830 f810 n811 n812 n813 gj0) (hb hby at_126) rfl (lenOf pd_12 rfl) (by decide) (by decide) (Nat.le_of_ble_eq_true rfl) (by decide) (by decide) ?_
      rintro v831 T831 h831 L831 X831 e831 ⟨rfl, N831, K831, V831⟩
      have N831a := Fr.app N821 N831
      have O832 : Ext Z.heap h831 := xk O822 K831 (allS f810 all0)
      show Ends p e below s _ _ _ T831 (mkF m 129 #[iv i0, iv i1, iv i2, iv i3, .val (.long j4), .second, .val (.long j5), .second, iv (2 : Int32), iv xv, iv yv, iv zv, rv a802, .val (.long j4), .second, .val (.long j5), .second, .val (.long (j4 ^^^ (-1 : Int64))), .second, .val (.long (j4 ^^^ j5)), .second, rv a810] [])
      refine go (fun _ => XS.aload X831.here hx rfl (hb hby at_129) rfl rfl) ?_
      refine go (fun _ => XT.iconstV X831.here hx rfl (0 : Int32) (hb hby at_131) (by decide)) ?_
      show Ends p e below s _ _ _ T831 (mkF m 132 #[iv i0, iv i1, iv i2, iv i3, .val (.long j4), .second, .val (.long j5), .second, iv (2 : Int32), iv xv, iv yv, iv zv, rv a802, .val (.long j4), .second, .val (.long j5), .second, .val (.long (j4 ^^^ (-1 : Int64))), .second, .val (.long (j4 ^^^ j5)), .second, rv a810] [(.int (0 : Int32)), (.ref a810)])
      obtain ⟨cl833, A833, -, S833, M833, H833, -⟩ := id V831
      have B833 := inb_of S833 (j := (0 : Int32)) (by decide)
      refine go (fun _ => X831.laload hx (j := (0 : Int32)) (v := (.long ((own_add (own_f j4 j5 (j4 ^^^ (-1 : Int64)) (j4 ^^^ j5)) ij0.toNatClampNeg wj0) 0))) (by rw [e831]; exact A833.1) (State.isArrayOf_alike hZ.alike A833.2.1) A833.2.2 B833 (H833.at B833 rfl) (g := (mkF m 132 #[iv i0, iv i1, iv i2, iv i3, .val (.long j4), .second, .val (.long j5), .second, iv (2 : Int32), iv xv, iv yv, iv zv, rv a802, .val (.long j4), .second, .val (.long j5), .second, .val (.long (j4 ^^^ (-1 : Int64))), .second, .val (.long (j4 ^^^ j5)), .second, rv a810] [(.int (0 : Int32)), (.ref a810)])) rfl rfl (hb hby at_132) _) ?_
      show Ends p e below s _ _ _ T831 (mkF m 133 #[iv i0, iv i1, iv i2, iv i3, .val (.long j4), .second, .val (.long j5), .second, iv (2 : Int32), iv xv, iv yv, iv zv, rv a802, .val (.long j4), .second, .val (.long j5), .second, .val (.long (j4 ^^^ (-1 : Int64))), .second, .val (.long (j4 ^^^ j5)), .second, rv a810] [(.long ((own_add (own_f j4 j5 (j4 ^^^ (-1 : Int64)) (j4 ^^^ j5)) ij0.toNatClampNeg wj0) 0))])
      refine go (fun _ => XT.iconstV X831.here hx rfl (0 : Int32) (hb hby at_133) (by decide)) ?_
      refine go (fun _ => XT.lload X831.here hx rfl (hb hby at_134) rfl) ?_
      refine go (fun _ => XS.iload X831.here hx rfl (hb hby at_136) rfl) ?_
      refine go (fun _ => XS.iload X831.here hx rfl (hb hby at_138) rfl) ?_
      refine go (fun _ => XS.iload X831.here hx rfl (hb hby at_140) rfl) ?_
      refine go (fun _ => XS.iload X831.here hx rfl (hb hby at_142) rfl) ?_
      show Ends p e below s _ _ _ T831 (mkF m 144 #[iv i0, iv i1, iv i2, iv i3, .val (.long j4), .second, .val (.long j5), .second, iv (2 : Int32), iv xv, iv yv, iv zv, rv a802, .val (.long j4), .second, .val (.long j5), .second, .val (.long (j4 ^^^ (-1 : Int64))), .second, .val (.long (j4 ^^^ j5)), .second, rv a810] [(.int zv), (.int yv), (.int xv), (.int (2 : Int32)), (.long j4), (.int (0 : Int32)), (.long ((own_add (own_f j4 j5 (j4 ^^^ (-1 : Int64)) (j4 ^^^ j5)) ij0.toNatClampNeg wj0) 0))])
      refine cStat X831 hx hZ hown (by rw [hml]; rfl) e831 (hwi hw 65 rfl) (hwi hw 66 rfl) (hwi hw 67 rfl) (hwi hw 68 rfl) [(.int (0 : Int32)), (.long j4), (.int (2 : Int32)), (.int xv), (.int yv), (.int zv)] [(.long ((own_add (own_f j4 j5 (j4 ^^^ (-1 : Int64)) (j4 ^^^ j5)) ij0.toNatClampNeg wj0) 0))] rfl (rm_exp2 hw (0 : Int32) j4 xv yv zv _) (hb hby at_144) rfl (lenOf pd_13 rfl) (by decide) (by decide) (Nat.le_of_ble_eq_true rfl) (by decide) (by decide) ?_
      rintro v834 T834 h834 L834 X834 e834 ⟨rfl, N834, rfl⟩
      have N834a := Fr.app N831a N834
      show Ends p e below s _ _ _ T834 (mkF m 147 #[iv i0, iv i1, iv i2, iv i3, .val (.long j4), .second, .val (.long j5), .second, iv (2 : Int32), iv xv, iv yv, iv zv, rv a802, .val (.long j4), .second, .val (.long j5), .second, .val (.long (j4 ^^^ (-1 : Int64))), .second, .val (.long (j4 ^^^ j5)), .second, rv a810] [(.long (own_acc (XT.ushr yv (6 : Int32)) (0 : Int32) (own_acc (XT.ushr xv (6 : Int32)) (0 : Int32) j4 ((1 : Int64) <<< (xv.toInt64 &&& 63))) ((1 : Int64) <<< (yv.toInt64 &&& 63)))), (.long ((own_add (own_f j4 j5 (j4 ^^^ (-1 : Int64)) (j4 ^^^ j5)) ij0.toNatClampNeg wj0) 0))])
      refine go (fun _ => XT.lcmp X834.here hx rfl (hb hby at_147) rfl) ?_
      show Ends p e below s _ _ _ T834 (mkF m 148 #[iv i0, iv i1, iv i2, iv i3, .val (.long j4), .second, .val (.long j5), .second, iv (2 : Int32), iv xv, iv yv, iv zv, rv a802, .val (.long j4), .second, .val (.long j5), .second, .val (.long (j4 ^^^ (-1 : Int64))), .second, .val (.long (j4 ^^^ j5)), .second, rv a810] [(.int (XT.cmpL ((own_add (own_f j4 j5 (j4 ^^^ (-1 : Int64)) (j4 ^^^ j5)) ij0.toNatClampNeg wj0) 0) (own_acc (XT.ushr yv (6 : Int32)) (0 : Int32) (own_acc (XT.ushr xv (6 : Int32)) (0 : Int32) j4 ((1 : Int64) <<< (xv.toInt64 &&& 63))) ((1 : Int64) <<< (yv.toInt64 &&& 63)))))])
      refine go (fun _ => XS.ifNo X834.here hx rfl (hb hby at_148) rfl (XT.ll_ne_f qj0)) ?_
      show Ends p e below s _ _ _ T834 (mkF m 151 #[iv i0, iv i1, iv i2, iv i3, .val (.long j4), .second, .val (.long j5), .second, iv (2 : Int32), iv xv, iv yv, iv zv, rv a802, .val (.long j4), .second, .val (.long j5), .second, .val (.long (j4 ^^^ (-1 : Int64))), .second, .val (.long (j4 ^^^ j5)), .second, rv a810] [])
      refine go (fun _ => XS.aload X834.here hx rfl (hb hby at_151) rfl rfl) ?_
      refine go (fun _ => XT.iconstV X834.here hx rfl (1 : Int32) (hb hby at_153) (by decide)) ?_
      show Ends p e below s _ _ _ T834 (mkF m 154 #[iv i0, iv i1, iv i2, iv i3, .val (.long j4), .second, .val (.long j5), .second, iv (2 : Int32), iv xv, iv yv, iv zv, rv a802, .val (.long j4), .second, .val (.long j5), .second, .val (.long (j4 ^^^ (-1 : Int64))), .second, .val (.long (j4 ^^^ j5)), .second, rv a810] [(.int (1 : Int32)), (.ref a810)])
      obtain ⟨cl835, A835, -, S835, M835, H835, -⟩ := id V831
      have B835 := inb_of S835 (j := (1 : Int32)) (by decide)
      refine go (fun _ => X834.laload hx (j := (1 : Int32)) (v := (.long ((own_add (own_f j4 j5 (j4 ^^^ (-1 : Int64)) (j4 ^^^ j5)) ij0.toNatClampNeg wj0) 1))) (by rw [e834]; exact A835.1) (State.isArrayOf_alike hZ.alike A835.2.1) A835.2.2 B835 (H835.at B835 rfl) (g := (mkF m 154 #[iv i0, iv i1, iv i2, iv i3, .val (.long j4), .second, .val (.long j5), .second, iv (2 : Int32), iv xv, iv yv, iv zv, rv a802, .val (.long j4), .second, .val (.long j5), .second, .val (.long (j4 ^^^ (-1 : Int64))), .second, .val (.long (j4 ^^^ j5)), .second, rv a810] [(.int (1 : Int32)), (.ref a810)])) rfl rfl (hb hby at_154) _) ?_
      show Ends p e below s _ _ _ T834 (mkF m 155 #[iv i0, iv i1, iv i2, iv i3, .val (.long j4), .second, .val (.long j5), .second, iv (2 : Int32), iv xv, iv yv, iv zv, rv a802, .val (.long j4), .second, .val (.long j5), .second, .val (.long (j4 ^^^ (-1 : Int64))), .second, .val (.long (j4 ^^^ j5)), .second, rv a810] [(.long ((own_add (own_f j4 j5 (j4 ^^^ (-1 : Int64)) (j4 ^^^ j5)) ij0.toNatClampNeg wj0) 1))])
      refine go (fun _ => XT.iconstV X834.here hx rfl (1 : Int32) (hb hby at_155) (by decide)) ?_
      refine go (fun _ => XT.lload X834.here hx rfl (hb hby at_156) rfl) ?_
      refine go (fun _ => XS.iload X834.here hx rfl (hb hby at_158) rfl) ?_
      refine go (fun _ => XS.iload X834.here hx rfl (hb hby at_160) rfl) ?_
      refine go (fun _ => XS.iload X834.here hx rfl (hb hby at_162) rfl) ?_
      refine go (fun _ => XS.iload X834.here hx rfl (hb hby at_164) rfl) ?_
      show Ends p e below s _ _ _ T834 (mkF m 166 #[iv i0, iv i1, iv i2, iv i3, .val (.long j4), .second, .val (.long j5), .second, iv (2 : Int32), iv xv, iv yv, iv zv, rv a802, .val (.long j4), .second, .val (.long j5), .second, .val (.long (j4 ^^^ (-1 : Int64))), .second, .val (.long (j4 ^^^ j5)), .second, rv a810] [(.int zv), (.int yv), (.int xv), (.int (2 : Int32)), (.long j5), (.int (1 : Int32)), (.long ((own_add (own_f j4 j5 (j4 ^^^ (-1 : Int64)) (j4 ^^^ j5)) ij0.toNatClampNeg wj0) 1))])
      refine cStat X834 hx hZ hown (by rw [hml]; rfl) e834 (hwi hw 65 rfl) (hwi hw 66 rfl) (hwi hw 67 rfl) (hwi hw 68 rfl) [(.int (1 : Int32)), (.long j5), (.int (2 : Int32)), (.int xv), (.int yv), (.int zv)] [(.long ((own_add (own_f j4 j5 (j4 ^^^ (-1 : Int64)) (j4 ^^^ j5)) ij0.toNatClampNeg wj0) 1))] rfl (rm_exp2 hw (1 : Int32) j5 xv yv zv _) (hb hby at_166) rfl (lenOf pd_13 rfl) (by decide) (by decide) (Nat.le_of_ble_eq_true rfl) (by decide) (by decide) ?_
      rintro v836 T836 h836 L836 X836 e836 ⟨rfl, N836, rfl⟩
      have N836a := Fr.app N834a N836
      show Ends p e below s _ _ _ T836 (mkF m 169 #[iv i0, iv i1, iv i2, iv i3, .val (.long j4), .second, .val (.long j5), .second, iv (2 : Int32), iv xv, iv yv, iv zv, rv a802, .val (.long j4), .second, .val (.long j5), .second, .val (.long (j4 ^^^ (-1 : Int64))), .second, .val (.long (j4 ^^^ j5)), .second, rv a810] [(.long (own_acc (XT.ushr yv (6 : Int32)) (1 : Int32) (own_acc (XT.ushr xv (6 : Int32)) (1 : Int32) j5 ((1 : Int64) <<< (xv.toInt64 &&& 63))) ((1 : Int64) <<< (yv.toInt64 &&& 63)))), (.long ((own_add (own_f j4 j5 (j4 ^^^ (-1 : Int64)) (j4 ^^^ j5)) ij0.toNatClampNeg wj0) 1))])
      refine go (fun _ => XT.lcmp X836.here hx rfl (hb hby at_169) rfl) ?_
      show Ends p e below s _ _ _ T836 (mkF m 170 #[iv i0, iv i1, iv i2, iv i3, .val (.long j4), .second, .val (.long j5), .second, iv (2 : Int32), iv xv, iv yv, iv zv, rv a802, .val (.long j4), .second, .val (.long j5), .second, .val (.long (j4 ^^^ (-1 : Int64))), .second, .val (.long (j4 ^^^ j5)), .second, rv a810] [(.int (XT.cmpL ((own_add (own_f j4 j5 (j4 ^^^ (-1 : Int64)) (j4 ^^^ j5)) ij0.toNatClampNeg wj0) 1) (own_acc (XT.ushr yv (6 : Int32)) (1 : Int32) (own_acc (XT.ushr xv (6 : Int32)) (1 : Int32) j5 ((1 : Int64) <<< (xv.toInt64 &&& 63))) ((1 : Int64) <<< (yv.toInt64 &&& 63)))))])
      refine go (fun _ => XS.ifNo X836.here hx rfl (hb hby at_170) rfl (XT.ll_ne_f qj1)) ?_
      show Ends p e below s _ _ _ T836 (mkF m 173 #[iv i0, iv i1, iv i2, iv i3, .val (.long j4), .second, .val (.long j5), .second, iv (2 : Int32), iv xv, iv yv, iv zv, rv a802, .val (.long j4), .second, .val (.long j5), .second, .val (.long (j4 ^^^ (-1 : Int64))), .second, .val (.long (j4 ^^^ j5)), .second, rv a810] [])
      refine go (fun _ => XS.aload X836.here hx rfl (hb hby at_173) rfl rfl) ?_
      refine go (fun _ => XT.iconstV X836.here hx rfl (2 : Int32) (hb hby at_175) (by decide)) ?_
      show Ends p e below s _ _ _ T836 (mkF m 176 #[iv i0, iv i1, iv i2, iv i3, .val (.long j4), .second, .val (.long j5), .second, iv (2 : Int32), iv xv, iv yv, iv zv, rv a802, .val (.long j4), .second, .val (.long j5), .second, .val (.long (j4 ^^^ (-1 : Int64))), .second, .val (.long (j4 ^^^ j5)), .second, rv a810] [(.int (2 : Int32)), (.ref a810)])
      obtain ⟨cl837, A837, -, S837, M837, H837, -⟩ := id V831
      have B837 := inb_of S837 (j := (2 : Int32)) (by decide)
      refine go (fun _ => X836.laload hx (j := (2 : Int32)) (v := (.long ((own_add (own_f j4 j5 (j4 ^^^ (-1 : Int64)) (j4 ^^^ j5)) ij0.toNatClampNeg wj0) 2))) (by rw [e836]; exact A837.1) (State.isArrayOf_alike hZ.alike A837.2.1) A837.2.2 B837 (H837.at B837 rfl) (g := (mkF m 176 #[iv i0, iv i1, iv i2, iv i3, .val (.long j4), .second, .val (.long j5), .second, iv (2 : Int32), iv xv, iv yv, iv zv, rv a802, .val (.long j4), .second, .val (.long j5), .second, .val (.long (j4 ^^^ (-1 : Int64))), .second, .val (.long (j4 ^^^ j5)), .second, rv a810] [(.int (2 : Int32)), (.ref a810)])) rfl rfl (hb hby at_176) _) ?_
      show Ends p e below s _ _ _ T836 (mkF m 177 #[iv i0, iv i1, iv i2, iv i3, .val (.long j4), .second, .val (.long j5), .second, iv (2 : Int32), iv xv, iv yv, iv zv, rv a802, .val (.long j4), .second, .val (.long j5), .second, .val (.long (j4 ^^^ (-1 : Int64))), .second, .val (.long (j4 ^^^ j5)), .second, rv a810] [(.long ((own_add (own_f j4 j5 (j4 ^^^ (-1 : Int64)) (j4 ^^^ j5)) ij0.toNatClampNeg wj0) 2))])
      refine go (fun _ => XT.iconstV X836.here hx rfl (2 : Int32) (hb hby at_177) (by decide)) ?_
      refine go (fun _ => XT.lload X836.here hx rfl (hb hby at_178) rfl) ?_
      refine go (fun _ => XS.iload X836.here hx rfl (hb hby at_180) rfl) ?_
      refine go (fun _ => XS.iload X836.here hx rfl (hb hby at_182) rfl) ?_
      refine go (fun _ => XS.iload X836.here hx rfl (hb hby at_184) rfl) ?_
      refine go (fun _ => XS.iload X836.here hx rfl (hb hby at_186) rfl) ?_
      show Ends p e below s _ _ _ T836 (mkF m 188 #[iv i0, iv i1, iv i2, iv i3, .val (.long j4), .second, .val (.long j5), .second, iv (2 : Int32), iv xv, iv yv, iv zv, rv a802, .val (.long j4), .second, .val (.long j5), .second, .val (.long (j4 ^^^ (-1 : Int64))), .second, .val (.long (j4 ^^^ j5)), .second, rv a810] [(.int zv), (.int yv), (.int xv), (.int (2 : Int32)), (.long (j4 ^^^ (-1 : Int64))), (.int (2 : Int32)), (.long ((own_add (own_f j4 j5 (j4 ^^^ (-1 : Int64)) (j4 ^^^ j5)) ij0.toNatClampNeg wj0) 2))])
      refine cStat X836 hx hZ hown (by rw [hml]; rfl) e836 (hwi hw 65 rfl) (hwi hw 66 rfl) (hwi hw 67 rfl) (hwi hw 68 rfl) [(.int (2 : Int32)), (.long (j4 ^^^ (-1 : Int64))), (.int (2 : Int32)), (.int xv), (.int yv), (.int zv)] [(.long ((own_add (own_f j4 j5 (j4 ^^^ (-1 : Int64)) (j4 ^^^ j5)) ij0.toNatClampNeg wj0) 2))] rfl (rm_exp2 hw (2 : Int32) (j4 ^^^ (-1 : Int64)) xv yv zv _) (hb hby at_188) rfl (lenOf pd_13 rfl) (by decide) (by decide) (Nat.le_of_ble_eq_true rfl) (by decide) (by decide) ?_
      rintro v838 T838 h838 L838 X838 e838 ⟨rfl, N838, rfl⟩
      have N838a := Fr.app N836a N838
      show Ends p e below s _ _ _ T838 (mkF m 191 #[iv i0, iv i1, iv i2, iv i3, .val (.long j4), .second, .val (.long j5), .second, iv (2 : Int32), iv xv, iv yv, iv zv, rv a802, .val (.long j4), .second, .val (.long j5), .second, .val (.long (j4 ^^^ (-1 : Int64))), .second, .val (.long (j4 ^^^ j5)), .second, rv a810] [(.long (own_acc (XT.ushr yv (6 : Int32)) (2 : Int32) (own_acc (XT.ushr xv (6 : Int32)) (2 : Int32) (j4 ^^^ (-1 : Int64)) ((1 : Int64) <<< (xv.toInt64 &&& 63))) ((1 : Int64) <<< (yv.toInt64 &&& 63)))), (.long ((own_add (own_f j4 j5 (j4 ^^^ (-1 : Int64)) (j4 ^^^ j5)) ij0.toNatClampNeg wj0) 2))])
      refine go (fun _ => XT.lcmp X838.here hx rfl (hb hby at_191) rfl) ?_
      show Ends p e below s _ _ _ T838 (mkF m 192 #[iv i0, iv i1, iv i2, iv i3, .val (.long j4), .second, .val (.long j5), .second, iv (2 : Int32), iv xv, iv yv, iv zv, rv a802, .val (.long j4), .second, .val (.long j5), .second, .val (.long (j4 ^^^ (-1 : Int64))), .second, .val (.long (j4 ^^^ j5)), .second, rv a810] [(.int (XT.cmpL ((own_add (own_f j4 j5 (j4 ^^^ (-1 : Int64)) (j4 ^^^ j5)) ij0.toNatClampNeg wj0) 2) (own_acc (XT.ushr yv (6 : Int32)) (2 : Int32) (own_acc (XT.ushr xv (6 : Int32)) (2 : Int32) (j4 ^^^ (-1 : Int64)) ((1 : Int64) <<< (xv.toInt64 &&& 63))) ((1 : Int64) <<< (yv.toInt64 &&& 63)))))])
      refine go (fun _ => XS.ifNo X838.here hx rfl (hb hby at_192) rfl (XT.ll_ne_f qj2)) ?_
      show Ends p e below s _ _ _ T838 (mkF m 195 #[iv i0, iv i1, iv i2, iv i3, .val (.long j4), .second, .val (.long j5), .second, iv (2 : Int32), iv xv, iv yv, iv zv, rv a802, .val (.long j4), .second, .val (.long j5), .second, .val (.long (j4 ^^^ (-1 : Int64))), .second, .val (.long (j4 ^^^ j5)), .second, rv a810] [])
      refine go (fun _ => XS.aload X838.here hx rfl (hb hby at_195) rfl rfl) ?_
      refine go (fun _ => XT.iconstV X838.here hx rfl (3 : Int32) (hb hby at_197) (by decide)) ?_
      show Ends p e below s _ _ _ T838 (mkF m 198 #[iv i0, iv i1, iv i2, iv i3, .val (.long j4), .second, .val (.long j5), .second, iv (2 : Int32), iv xv, iv yv, iv zv, rv a802, .val (.long j4), .second, .val (.long j5), .second, .val (.long (j4 ^^^ (-1 : Int64))), .second, .val (.long (j4 ^^^ j5)), .second, rv a810] [(.int (3 : Int32)), (.ref a810)])
      obtain ⟨cl839, A839, -, S839, M839, H839, -⟩ := id V831
      have B839 := inb_of S839 (j := (3 : Int32)) (by decide)
      refine go (fun _ => X838.laload hx (j := (3 : Int32)) (v := (.long ((own_add (own_f j4 j5 (j4 ^^^ (-1 : Int64)) (j4 ^^^ j5)) ij0.toNatClampNeg wj0) 3))) (by rw [e838]; exact A839.1) (State.isArrayOf_alike hZ.alike A839.2.1) A839.2.2 B839 (H839.at B839 rfl) (g := (mkF m 198 #[iv i0, iv i1, iv i2, iv i3, .val (.long j4), .second, .val (.long j5), .second, iv (2 : Int32), iv xv, iv yv, iv zv, rv a802, .val (.long j4), .second, .val (.long j5), .second, .val (.long (j4 ^^^ (-1 : Int64))), .second, .val (.long (j4 ^^^ j5)), .second, rv a810] [(.int (3 : Int32)), (.ref a810)])) rfl rfl (hb hby at_198) _) ?_
      show Ends p e below s _ _ _ T838 (mkF m 199 #[iv i0, iv i1, iv i2, iv i3, .val (.long j4), .second, .val (.long j5), .second, iv (2 : Int32), iv xv, iv yv, iv zv, rv a802, .val (.long j4), .second, .val (.long j5), .second, .val (.long (j4 ^^^ (-1 : Int64))), .second, .val (.long (j4 ^^^ j5)), .second, rv a810] [(.long ((own_add (own_f j4 j5 (j4 ^^^ (-1 : Int64)) (j4 ^^^ j5)) ij0.toNatClampNeg wj0) 3))])
      refine go (fun _ => XT.iconstV X838.here hx rfl (3 : Int32) (hb hby at_199) (by decide)) ?_
      refine go (fun _ => XT.lload X838.here hx rfl (hb hby at_200) rfl) ?_
      refine go (fun _ => XS.iload X838.here hx rfl (hb hby at_202) rfl) ?_
      refine go (fun _ => XS.iload X838.here hx rfl (hb hby at_204) rfl) ?_
      refine go (fun _ => XS.iload X838.here hx rfl (hb hby at_206) rfl) ?_
      refine go (fun _ => XS.iload X838.here hx rfl (hb hby at_208) rfl) ?_
      show Ends p e below s _ _ _ T838 (mkF m 210 #[iv i0, iv i1, iv i2, iv i3, .val (.long j4), .second, .val (.long j5), .second, iv (2 : Int32), iv xv, iv yv, iv zv, rv a802, .val (.long j4), .second, .val (.long j5), .second, .val (.long (j4 ^^^ (-1 : Int64))), .second, .val (.long (j4 ^^^ j5)), .second, rv a810] [(.int zv), (.int yv), (.int xv), (.int (2 : Int32)), (.long (j4 ^^^ j5)), (.int (3 : Int32)), (.long ((own_add (own_f j4 j5 (j4 ^^^ (-1 : Int64)) (j4 ^^^ j5)) ij0.toNatClampNeg wj0) 3))])
      refine cStat X838 hx hZ hown (by rw [hml]; rfl) e838 (hwi hw 65 rfl) (hwi hw 66 rfl) (hwi hw 67 rfl) (hwi hw 68 rfl) [(.int (3 : Int32)), (.long (j4 ^^^ j5)), (.int (2 : Int32)), (.int xv), (.int yv), (.int zv)] [(.long ((own_add (own_f j4 j5 (j4 ^^^ (-1 : Int64)) (j4 ^^^ j5)) ij0.toNatClampNeg wj0) 3))] rfl (rm_exp2 hw (3 : Int32) (j4 ^^^ j5) xv yv zv _) (hb hby at_210) rfl (lenOf pd_13 rfl) (by decide) (by decide) (Nat.le_of_ble_eq_true rfl) (by decide) (by decide) ?_
      rintro v840 T840 h840 L840 X840 e840 ⟨rfl, N840, rfl⟩
      have N840a := Fr.app N838a N840
      show Ends p e below s _ _ _ T840 (mkF m 213 #[iv i0, iv i1, iv i2, iv i3, .val (.long j4), .second, .val (.long j5), .second, iv (2 : Int32), iv xv, iv yv, iv zv, rv a802, .val (.long j4), .second, .val (.long j5), .second, .val (.long (j4 ^^^ (-1 : Int64))), .second, .val (.long (j4 ^^^ j5)), .second, rv a810] [(.long (own_acc (XT.ushr yv (6 : Int32)) (3 : Int32) (own_acc (XT.ushr xv (6 : Int32)) (3 : Int32) (j4 ^^^ j5) ((1 : Int64) <<< (xv.toInt64 &&& 63))) ((1 : Int64) <<< (yv.toInt64 &&& 63)))), (.long ((own_add (own_f j4 j5 (j4 ^^^ (-1 : Int64)) (j4 ^^^ j5)) ij0.toNatClampNeg wj0) 3))])
      refine go (fun _ => XT.lcmp X840.here hx rfl (hb hby at_213) rfl) ?_
      show Ends p e below s _ _ _ T840 (mkF m 214 #[iv i0, iv i1, iv i2, iv i3, .val (.long j4), .second, .val (.long j5), .second, iv (2 : Int32), iv xv, iv yv, iv zv, rv a802, .val (.long j4), .second, .val (.long j5), .second, .val (.long (j4 ^^^ (-1 : Int64))), .second, .val (.long (j4 ^^^ j5)), .second, rv a810] [(.int (XT.cmpL ((own_add (own_f j4 j5 (j4 ^^^ (-1 : Int64)) (j4 ^^^ j5)) ij0.toNatClampNeg wj0) 3) (own_acc (XT.ushr yv (6 : Int32)) (3 : Int32) (own_acc (XT.ushr xv (6 : Int32)) (3 : Int32) (j4 ^^^ j5) ((1 : Int64) <<< (xv.toInt64 &&& 63))) ((1 : Int64) <<< (yv.toInt64 &&& 63)))))])
      refine go (fun _ => XS.ifNo X840.here hx rfl (hb hby at_214) rfl (XT.ll_ne_f qj3)) ?_
      show Ends p e below s _ _ _ T840 (mkF m 217 #[iv i0, iv i1, iv i2, iv i3, .val (.long j4), .second, .val (.long j5), .second, iv (2 : Int32), iv xv, iv yv, iv zv, rv a802, .val (.long j4), .second, .val (.long j5), .second, .val (.long (j4 ^^^ (-1 : Int64))), .second, .val (.long (j4 ^^^ j5)), .second, rv a810] [])
      refine go (fun _ => XT.iconstV X840.here hx rfl (1 : Int32) (hb hby at_217) (by decide)) ?_
      refine go (fun _ => XS.goto X840.here hx rfl (pc0 := 218) (pc' := 222) rfl (hb hby at_218) (by decide) (by decide)) ?_
      show Ends p e below s _ _ _ T840 (mkF m 222 #[iv i0, iv i1, iv i2, iv i3, .val (.long j4), .second, .val (.long j5), .second, iv (2 : Int32), iv xv, iv yv, iv zv, rv a802, .val (.long j4), .second, .val (.long j5), .second, .val (.long (j4 ^^^ (-1 : Int64))), .second, .val (.long (j4 ^^^ j5)), .second, rv a810] [(.int (1 : Int32))])
      exact endN X840 hx hlk hret (by simp) (hb hby at_222) e840 ⟨rfl, N840a⟩ (by decide) (by decide)
    have J2_2_0 : ∀ (TJ : State) (hJ : Heap) (LJ : List Loc) (aiJ awJ : Addr) (kiJ kwJ : ClassId) (ij0 ij1 : Int32) (wj0 wj1 : Int64) (XJ : Stand p l e room_1 s m #[(.int i0), (.int i1), (.int i2), (.int i3), (.long j4), (.long j5)] below meth c TJ LJ 8 64) (eJ : TJ.heap = hJ) (OJ : Ext Z.heap hJ) (NJ : Fr Z.heap.size LJ) (EJ : Exa Z hJ a802 "com/example/libtbox/libtbox/core/SparseBitSet") (PJ0 : Fld Z hJ a802 "com/example/libtbox/libtbox/core/SparseBitSet" "indices" "[I" (.ref aiJ)) (PJ1 : Fld Z hJ a802 "com/example/libtbox/libtbox/core/SparseBitSet" "words" "[J" (.ref awJ)) (PJ2 : Fld Z hJ a802 "com/example/libtbox/libtbox/core/SparseBitSet" "count" "I" (.int (2 : Int32))) (PJ3 : Fld Z hJ a802 "com/example/libtbox/libtbox/core/SparseBitSet" "lastFound" "I" (.int (0 : Int32))) (PJ4 : Arv Z hJ aiJ kiJ .int (2 : Int32) [(.int ij0), (.int ij1)] (.int 0)) (PJ5 : Arv Z hJ awJ kwJ .long (2 : Int32) [(.long wj0), (.long wj1)] (.long 0)) (fiJ : Z.heap.size ≤ aiJ) (fwJ : Z.heap.size ≤ awJ) (n1J : a802 ≠ aiJ) (n2J : a802 ≠ awJ) (n3J : aiJ ≠ awJ) (gj0 : ¬ ij0 < 0 ∧ ij0 < 4) (gj1 : ¬ ij1 < 0 ∧ ij1 < 4) (qj0 : ((own_add (own_add (own_f j4 j5 (j4 ^^^ (-1 : Int64)) (j4 ^^^ j5)) ij0.toNatClampNeg wj0) ij1.toNatClampNeg wj1) 0) = (own_acc (XT.ushr yv (6 : Int32)) (0 : Int32) (own_acc (XT.ushr xv (6 : Int32)) (0 : Int32) j4 ((1 : Int64) <<< (xv.toInt64 &&& 63))) ((1 : Int64) <<< (yv.toInt64 &&& 63)))) (qj1 : ((own_add (own_add (own_f j4 j5 (j4 ^^^ (-1 : Int64)) (j4 ^^^ j5)) ij0.toNatClampNeg wj0) ij1.toNatClampNeg wj1) 1) = (own_acc (XT.ushr yv (6 : Int32)) (1 : Int32) (own_acc (XT.ushr xv (6 : Int32)) (1 : Int32) j5 ((1 : Int64) <<< (xv.toInt64 &&& 63))) ((1 : Int64) <<< (yv.toInt64 &&& 63)))) (qj2 : ((own_add (own_add (own_f j4 j5 (j4 ^^^ (-1 : Int64)) (j4 ^^^ j5)) ij0.toNatClampNeg wj0) ij1.toNatClampNeg wj1) 2) = (own_acc (XT.ushr yv (6 : Int32)) (2 : Int32) (own_acc (XT.ushr xv (6 : Int32)) (2 : Int32) (j4 ^^^ (-1 : Int64)) ((1 : Int64) <<< (xv.toInt64 &&& 63))) ((1 : Int64) <<< (yv.toInt64 &&& 63)))) (qj3 : ((own_add (own_add (own_f j4 j5 (j4 ^^^ (-1 : Int64)) (j4 ^^^ j5)) ij0.toNatClampNeg wj0) ij1.toNatClampNeg wj1) 3) = (own_acc (XT.ushr yv (6 : Int32)) (3 : Int32) (own_acc (XT.ushr xv (6 : Int32)) (3 : Int32) (j4 ^^^ j5) ((1 : Int64) <<< (xv.toInt64 &&& 63))) ((1 : Int64) <<< (yv.toInt64 &&& 63)))), Ends p e below s (fun v h L => v = some (.int 1) ∧ Fr Z.heap.size L) room_1.cells room_1.slots TJ (mkF m 74 #[iv i0, iv i1, iv i2, iv i3, .val (.long j4), .second, .val (.long j5), .second, iv (2 : Int32), iv xv, iv yv, iv zv, rv a802, .unset, .unset, .unset, .unset, .unset, .unset, .unset, .unset, .unset] []) := by
      intro TJ hJ LJ aiJ awJ kiJ kwJ ij0 ij1 wj0 wj1 XJ eJ OJ NJ EJ PJ0 PJ1 PJ2 PJ3 PJ4 PJ5 fiJ fwJ n1J n2J n3J gj0 gj1 qj0 qj1 qj2 qj3
      refine go (fun _ => XT.lload XJ.here hx rfl (hb hby at_74) rfl) ?_
      refine go (fun _ => XT.lstore XJ.here hx rfl (hb hby at_76) rfl (l' := #[iv i0, iv i1, iv i2, iv i3, .val (.long j4), .second, .val (.long j5), .second, iv (2 : Int32), iv xv, iv yv, iv zv, rv a802, .val (.long j4), .second, .unset, .unset, .unset, .unset, .unset, .unset, .unset]) rfl) ?_
      refine go (fun _ => XT.lload XJ.here hx rfl (hb hby at_78) rfl) ?_
      refine go (fun _ => XT.lstore XJ.here hx rfl (hb hby at_80) rfl (l' := #[iv i0, iv i1, iv i2, iv i3, .val (.long j4), .second, .val (.long j5), .second, iv (2 : Int32), iv xv, iv yv, iv zv, rv a802, .val (.long j4), .second, .val (.long j5), .second, .unset, .unset, .unset, .unset, .unset]) rfl) ?_
      refine go (fun _ => XT.lload XJ.here hx rfl (hb hby at_82) rfl) ?_
      show Ends p e below s _ _ _ TJ (mkF m 84 #[iv i0, iv i1, iv i2, iv i3, .val (.long j4), .second, .val (.long j5), .second, iv (2 : Int32), iv xv, iv yv, iv zv, rv a802, .val (.long j4), .second, .val (.long j5), .second, .unset, .unset, .unset, .unset, .unset] [(.long j4)])
      refine go (fun _ => Jvm.Stand.ldc2J XJ hx hown (mvT hZ (hwi hw 59 rfl)) rfl (hb hby at_84)) ?_
      show Ends p e below s _ _ _ TJ (mkF m 87 #[iv i0, iv i1, iv i2, iv i3, .val (.long j4), .second, .val (.long j5), .second, iv (2 : Int32), iv xv, iv yv, iv zv, rv a802, .val (.long j4), .second, .val (.long j5), .second, .unset, .unset, .unset, .unset, .unset] [(.long (-1 : Int64)), (.long j4)])
      refine go (fun _ => XT.lxor XJ.here hx rfl (hb hby at_87) rfl) ?_
      refine go (fun _ => XT.lstore XJ.here hx rfl (hb hby at_88) rfl (l' := #[iv i0, iv i1, iv i2, iv i3, .val (.long j4), .second, .val (.long j5), .second, iv (2 : Int32), iv xv, iv yv, iv zv, rv a802, .val (.long j4), .second, .val (.long j5), .second, .val (.long (j4 ^^^ (-1 : Int64))), .second, .unset, .unset, .unset]) rfl) ?_
      refine go (fun _ => XT.lload XJ.here hx rfl (hb hby at_90) rfl) ?_
      refine go (fun _ => XT.lload XJ.here hx rfl (hb hby at_92) rfl) ?_
      refine go (fun _ => XT.lxor XJ.here hx rfl (hb hby at_94) rfl) ?_
      refine go (fun _ => XT.lstore XJ.here hx rfl (hb hby at_95) rfl (l' := #[iv i0, iv i1, iv i2, iv i3, .val (.long j4), .second, .val (.long j5), .second, iv (2 : Int32), iv xv, iv yv, iv zv, rv a802, .val (.long j4), .second, .val (.long j5), .second, .val (.long (j4 ^^^ (-1 : Int64))), .second, .val (.long (j4 ^^^ j5)), .second, .unset]) rfl) ?_
      show Ends p e below s _ _ _ TJ (mkF m 97 #[iv i0, iv i1, iv i2, iv i3, .val (.long j4), .second, .val (.long j5), .second, iv (2 : Int32), iv xv, iv yv, iv zv, rv a802, .val (.long j4), .second, .val (.long j5), .second, .val (.long (j4 ^^^ (-1 : Int64))), .second, .val (.long (j4 ^^^ j5)), .second, .unset] [])
      refine go (fun _ => XT.iconstV XJ.here hx rfl (4 : Int32) (hb hby at_97) (by decide)) ?_
      show Ends p e below s _ _ _ TJ (mkF m 98 #[iv i0, iv i1, iv i2, iv i3, .val (.long j4), .second, .val (.long j5), .second, iv (2 : Int32), iv xv, iv yv, iv zv, rv a802, .val (.long j4), .second, .val (.long j5), .second, .val (.long (j4 ^^^ (-1 : Int64))), .second, .val (.long (j4 ^^^ j5)), .second, .unset] [(.int (4 : Int32))])
      obtain ⟨T841, h841, k841, X841, e841, E841, A841, s841⟩ := newP XJ hx hZ (hwi hw 57 rfl) eJ (g := (mkF m 98 #[iv i0, iv i1, iv i2, iv i3, .val (.long j4), .second, .val (.long j5), .second, iv (2 : Int32), iv xv, iv yv, iv zv, rv a802, .val (.long j4), .second, .val (.long j5), .second, .val (.long (j4 ^^^ (-1 : Int64))), .second, .val (.long (j4 ^^^ j5)), .second, .unset] [(.int (4 : Int32))])) rfl (hb hby at_98) rfl (by decide) (cap := 4) (by decide) (by decide) (by decide) (by decide)
      obtain ⟨a841, g841⟩ : ∃ z : Addr, z = hJ.size := ⟨_, rfl⟩
      have n842 : a802 ≠ a841 := fun q => absurd (EJ.lt) (by rw [q, g841]; exact Nat.lt_irrefl _)
      have n843 : aiJ ≠ a841 := fun q => absurd (PJ4.lt) (by rw [q, g841]; exact Nat.lt_irrefl _)
      have n844 : awJ ≠ a841 := fun q => absurd (PJ5.lt) (by rw [q, g841]; exact Nat.lt_irrefl _)
      have f841 : Z.heap.size ≤ a841 := by rw [g841]; exact (OJ).1
      rw [← g841] at A841 s841
      have O845 : Ext Z.heap h841 := xx OJ E841
      have V841 : Arv Z h841 a841 k841 .long (4 : Int32) [(.long (0 : Int64)), (.long (0 : Int64)), (.long (0 : Int64)), (.long (0 : Int64))] (.long 0) := Arv.pad (Arv.new A841 (by decide)) (pad_rep [] _ 4)
      refine go s841 ?_
      show Ends p e below s _ _ _ T841 (mkF m 100 #[iv i0, iv i1, iv i2, iv i3, .val (.long j4), .second, .val (.long j5), .second, iv (2 : Int32), iv xv, iv yv, iv zv, rv a802, .val (.long j4), .second, .val (.long j5), .second, .val (.long (j4 ^^^ (-1 : Int64))), .second, .val (.long (j4 ^^^ j5)), .second, .unset] [(.ref a841)])
      refine go (fun _ => XS.dup X841.here hx rfl (hb hby at_100) rfl rfl) ?_
      refine go (fun _ => XT.iconstV X841.here hx rfl (0 : Int32) (hb hby at_101) (by decide)) ?_
      refine go (fun _ => XT.lload X841.here hx rfl (hb hby at_102) rfl) ?_
      show Ends p e below s _ _ _ T841 (mkF m 104 #[iv i0, iv i1, iv i2, iv i3, .val (.long j4), .second, .val (.long j5), .second, iv (2 : Int32), iv xv, iv yv, iv zv, rv a802, .val (.long j4), .second, .val (.long j5), .second, .val (.long (j4 ^^^ (-1 : Int64))), .second, .val (.long (j4 ^^^ j5)), .second, .unset] [(.long j4), (.int (0 : Int32)), (.ref a841), (.ref a841)])
      obtain ⟨cl846, A846, q846, S846, M846, H846, G846⟩ := id V841
      obtain ⟨T846, h846, X846, e846, W846, s846⟩ := stJ X841 hx hZ e841 A846 (j := (0 : Int32)) (inb_of S846 (by decide)) (g := (mkF m 104 #[iv i0, iv i1, iv i2, iv i3, .val (.long j4), .second, .val (.long j5), .second, iv (2 : Int32), iv xv, iv yv, iv zv, rv a802, .val (.long j4), .second, .val (.long j5), .second, .val (.long (j4 ^^^ (-1 : Int64))), .second, .val (.long (j4 ^^^ j5)), .second, .unset] [(.long j4), (.int (0 : Int32)), (.ref a841), (.ref a841)])) rfl rfl (hb hby at_104)
      have N846 := Fr.snoc X846 NJ f841
      have O847 : Ext Z.heap h846 := xw O845 W846 f841
      have V846 : Arv Z h846 a841 k841 .long (4 : Int32) [(.long j4), (.long (0 : Int64)), (.long (0 : Int64)), (.long (0 : Int64))] (.long 0) := Arv.set A846 q846 S846 M846 H846 G846 rfl W846 0 (by decide) (Nat.le_of_ble_eq_true rfl)
      refine go s846 ?_
      show Ends p e below s _ _ _ T846 (mkF m 105 #[iv i0, iv i1, iv i2, iv i3, .val (.long j4), .second, .val (.long j5), .second, iv (2 : Int32), iv xv, iv yv, iv zv, rv a802, .val (.long j4), .second, .val (.long j5), .second, .val (.long (j4 ^^^ (-1 : Int64))), .second, .val (.long (j4 ^^^ j5)), .second, .unset] [(.ref a841)])
      refine go (fun _ => XS.dup X846.here hx rfl (hb hby at_105) rfl rfl) ?_
      refine go (fun _ => XT.iconstV X846.here hx rfl (1 : Int32) (hb hby at_106) (by decide)) ?_
      refine go (fun _ => XT.lload X846.here hx rfl (hb hby at_107) rfl) ?_
      show Ends p e below s _ _ _ T846 (mkF m 109 #[iv i0, iv i1, iv i2, iv i3, .val (.long j4), .second, .val (.long j5), .second, iv (2 : Int32), iv xv, iv yv, iv zv, rv a802, .val (.long j4), .second, .val (.long j5), .second, .val (.long (j4 ^^^ (-1 : Int64))), .second, .val (.long (j4 ^^^ j5)), .second, .unset] [(.long j5), (.int (1 : Int32)), (.ref a841), (.ref a841)])
      obtain ⟨cl848, A848, q848, S848, M848, H848, G848⟩ := id V846
      obtain ⟨T848, h848, X848, e848, W848, s848⟩ := stJ X846 hx hZ e846 A848 (j := (1 : Int32)) (inb_of S848 (by decide)) (g := (mkF m 109 #[iv i0, iv i1, iv i2, iv i3, .val (.long j4), .second, .val (.long j5), .second, iv (2 : Int32), iv xv, iv yv, iv zv, rv a802, .val (.long j4), .second, .val (.long j5), .second, .val (.long (j4 ^^^ (-1 : Int64))), .second, .val (.long (j4 ^^^ j5)), .second, .unset] [(.long j5), (.int (1 : Int32)), (.ref a841), (.ref a841)])) rfl rfl (hb hby at_109)
      have N848 := Fr.snoc X848 N846 f841
      have O849 : Ext Z.heap h848 := xw O847 W848 f841
      have V848 : Arv Z h848 a841 k841 .long (4 : Int32) [(.long j4), (.long j5), (.long (0 : Int64)), (.long (0 : Int64))] (.long 0) := Arv.set A848 q848 S848 M848 H848 G848 rfl W848 1 (by decide) (Nat.le_of_ble_eq_true rfl)
      refine go s848 ?_
      show Ends p e below s _ _ _ T848 (mkF m 110 #[iv i0, iv i1, iv i2, iv i3, .val (.long j4), .second, .val (.long j5), .second, iv (2 : Int32), iv xv, iv yv, iv zv, rv a802, .val (.long j4), .second, .val (.long j5), .second, .val (.long (j4 ^^^ (-1 : Int64))), .second, .val (.long (j4 ^^^ j5)), .second, .unset] [(.ref a841)])
      refine go (fun _ => XS.dup X848.here hx rfl (hb hby at_110) rfl rfl) ?_
      refine go (fun _ => XT.iconstV X848.here hx rfl (2 : Int32) (hb hby at_111) (by decide)) ?_
      refine go (fun _ => XT.lload X848.here hx rfl (hb hby at_112) rfl) ?_
      show Ends p e below s _ _ _ T848 (mkF m 114 #[iv i0, iv i1, iv i2, iv i3, .val (.long j4), .second, .val (.long j5), .second, iv (2 : Int32), iv xv, iv yv, iv zv, rv a802, .val (.long j4), .second, .val (.long j5), .second, .val (.long (j4 ^^^ (-1 : Int64))), .second, .val (.long (j4 ^^^ j5)), .second, .unset] [(.long (j4 ^^^ (-1 : Int64))), (.int (2 : Int32)), (.ref a841), (.ref a841)])
      obtain ⟨cl850, A850, q850, S850, M850, H850, G850⟩ := id V848
      obtain ⟨T850, h850, X850, e850, W850, s850⟩ := stJ X848 hx hZ e848 A850 (j := (2 : Int32)) (inb_of S850 (by decide)) (g := (mkF m 114 #[iv i0, iv i1, iv i2, iv i3, .val (.long j4), .second, .val (.long j5), .second, iv (2 : Int32), iv xv, iv yv, iv zv, rv a802, .val (.long j4), .second, .val (.long j5), .second, .val (.long (j4 ^^^ (-1 : Int64))), .second, .val (.long (j4 ^^^ j5)), .second, .unset] [(.long (j4 ^^^ (-1 : Int64))), (.int (2 : Int32)), (.ref a841), (.ref a841)])) rfl rfl (hb hby at_114)
      have N850 := Fr.snoc X850 N848 f841
      have O851 : Ext Z.heap h850 := xw O849 W850 f841
      have V850 : Arv Z h850 a841 k841 .long (4 : Int32) [(.long j4), (.long j5), (.long (j4 ^^^ (-1 : Int64))), (.long (0 : Int64))] (.long 0) := Arv.set A850 q850 S850 M850 H850 G850 rfl W850 2 (by decide) (Nat.le_of_ble_eq_true rfl)
      refine go s850 ?_
      show Ends p e below s _ _ _ T850 (mkF m 115 #[iv i0, iv i1, iv i2, iv i3, .val (.long j4), .second, .val (.long j5), .second, iv (2 : Int32), iv xv, iv yv, iv zv, rv a802, .val (.long j4), .second, .val (.long j5), .second, .val (.long (j4 ^^^ (-1 : Int64))), .second, .val (.long (j4 ^^^ j5)), .second, .unset] [(.ref a841)])
      refine go (fun _ => XS.dup X850.here hx rfl (hb hby at_115) rfl rfl) ?_
      refine go (fun _ => XT.iconstV X850.here hx rfl (3 : Int32) (hb hby at_116) (by decide)) ?_
      refine go (fun _ => XT.lload X850.here hx rfl (hb hby at_117) rfl) ?_
      show Ends p e below s _ _ _ T850 (mkF m 119 #[iv i0, iv i1, iv i2, iv i3, .val (.long j4), .second, .val (.long j5), .second, iv (2 : Int32), iv xv, iv yv, iv zv, rv a802, .val (.long j4), .second, .val (.long j5), .second, .val (.long (j4 ^^^ (-1 : Int64))), .second, .val (.long (j4 ^^^ j5)), .second, .unset] [(.long (j4 ^^^ j5)), (.int (3 : Int32)), (.ref a841), (.ref a841)])
      obtain ⟨cl852, A852, q852, S852, M852, H852, G852⟩ := id V850
      obtain ⟨T852, h852, X852, e852, W852, s852⟩ := stJ X850 hx hZ e850 A852 (j := (3 : Int32)) (inb_of S852 (by decide)) (g := (mkF m 119 #[iv i0, iv i1, iv i2, iv i3, .val (.long j4), .second, .val (.long j5), .second, iv (2 : Int32), iv xv, iv yv, iv zv, rv a802, .val (.long j4), .second, .val (.long j5), .second, .val (.long (j4 ^^^ (-1 : Int64))), .second, .val (.long (j4 ^^^ j5)), .second, .unset] [(.long (j4 ^^^ j5)), (.int (3 : Int32)), (.ref a841), (.ref a841)])) rfl rfl (hb hby at_119)
      have N852 := Fr.snoc X852 N850 f841
      have O853 : Ext Z.heap h852 := xw O851 W852 f841
      have V852 : Arv Z h852 a841 k841 .long (4 : Int32) [(.long j4), (.long j5), (.long (j4 ^^^ (-1 : Int64))), (.long (j4 ^^^ j5))] (.long 0) := Arv.set A852 q852 S852 M852 H852 G852 rfl W852 3 (by decide) (Nat.le_of_ble_eq_true rfl)
      refine go s852 ?_
      show Ends p e below s _ _ _ T852 (mkF m 120 #[iv i0, iv i1, iv i2, iv i3, .val (.long j4), .second, .val (.long j5), .second, iv (2 : Int32), iv xv, iv yv, iv zv, rv a802, .val (.long j4), .second, .val (.long j5), .second, .val (.long (j4 ^^^ (-1 : Int64))), .second, .val (.long (j4 ^^^ j5)), .second, .unset] [(.ref a841)])
      refine go (fun _ => XS.astore X852.here hx rfl (hb hby at_120) rfl rfl (l' := #[iv i0, iv i1, iv i2, iv i3, .val (.long j4), .second, .val (.long j5), .second, iv (2 : Int32), iv xv, iv yv, iv zv, rv a802, .val (.long j4), .second, .val (.long j5), .second, .val (.long (j4 ^^^ (-1 : Int64))), .second, .val (.long (j4 ^^^ j5)), .second, rv a841]) rfl) ?_
      refine go (fun _ => XS.aload X852.here hx rfl (hb hby at_122) rfl rfl) ?_
      refine go (fun _ => XS.aload X852.here hx rfl (hb hby at_124) rfl rfl) ?_
      show Ends p e below s _ _ _ T852 (mkF m 126 #[iv i0, iv i1, iv i2, iv i3, .val (.long j4), .second, .val (.long j5), .second, iv (2 : Int32), iv xv, iv yv, iv zv, rv a802, .val (.long j4), .second, .val (.long j5), .second, .val (.long (j4 ^^^ (-1 : Int64))), .second, .val (.long (j4 ^^^ j5)), .second, rv a841] [(.ref a841), (.ref a802)])
      have F854 := (Fld.other W852 (Fld.other W850 (Fld.other W848 (Fld.other W846 (Fld.ext E841 PJ0) (Or.inl n842)) (Or.inl n842)) (Or.inl n842)) (Or.inl n842))
      have F855 := (Fld.other W852 (Fld.other W850 (Fld.other W848 (Fld.other W846 (Fld.ext E841 PJ1) (Or.inl n842)) (Or.inl n842)) (Or.inl n842)) (Or.inl n842))
      have F856 := (Fld.other W852 (Fld.other W850 (Fld.other W848 (Fld.other W846 (Fld.ext E841 PJ2) (Or.inl n842)) (Or.inl n842)) (Or.inl n842)) (Or.inl n842))
      have F857 := (Fld.other W852 (Fld.other W850 (Fld.other W848 (Fld.other W846 (Fld.ext E841 PJ3) (Or.inl n842)) (Or.inl n842)) (Or.inl n842)) (Or.inl n842))
      have F858 := (Arv.other (Arv.other (Arv.other (Arv.other (Arv.ext PJ4 E841) W846 n843) W848 n843) W850 n843) W852 n843)
      have F859 := (Arv.other (Arv.other (Arv.other (Arv.other (Arv.ext PJ5 E841) W846 n844) W848 n844) W850 n844) W852 n844)
      have F860 := (Exa.wr W852 (Exa.wr W850 (Exa.wr W848 (Exa.wr W846 (Exa.ext E841 EJ)))))
      have VL861 : Arv Z h852 a841 k841 .long (4 : Int32) (own_b (own_f j4 j5 (j4 ^^^ (-1 : Int64)) (j4 ^^^ j5))) (.long 0) := V852
      refine cVirt X852 hx hZ hown (by rw [hml]; rfl) e852 (hwi hw 60 rfl) (hwi hw 61 rfl) (hwi hw 63 rfl) (hwi hw 62 rfl) (hwi hw 2 rfl) (hwi hw 64 rfl) (notFace_of_selects (args := #[]) (mvT hZ (hwi hw 63 rfl))) a802 F860 [(.ref a841)] [] rfl (rm_add2_0 hw a802 aiJ awJ kiJ kwJ ij0 ij1 wj0 wj1 a841 k841 (own_f j4 j5 (j4 ^^^ (-1 : Int64)) (j4 ^^^ j5)) _ O853 f802 F860 F854 F855 F856 F857 F858 F859 fiJ fwJ n1J n2J n3J VL861 f841 n842 n843 n844 gj0 gj1) (hb hby at_126) rfl (lenOf pd_12 rfl) (by decide) (by decide) (Nat.le_of_ble_eq_true rfl) (by decide) (by decide) ?_
      rintro v862 T862 h862 L862 X862 e862 ⟨rfl, N862, K862, V862⟩
      have N862a := Fr.app N852 N862
      have O863 : Ext Z.heap h862 := xk O853 K862 (allS f841 all0)
      show Ends p e below s _ _ _ T862 (mkF m 129 #[iv i0, iv i1, iv i2, iv i3, .val (.long j4), .second, .val (.long j5), .second, iv (2 : Int32), iv xv, iv yv, iv zv, rv a802, .val (.long j4), .second, .val (.long j5), .second, .val (.long (j4 ^^^ (-1 : Int64))), .second, .val (.long (j4 ^^^ j5)), .second, rv a841] [])
      refine go (fun _ => XS.aload X862.here hx rfl (hb hby at_129) rfl rfl) ?_
      refine go (fun _ => XT.iconstV X862.here hx rfl (0 : Int32) (hb hby at_131) (by decide)) ?_
      show Ends p e below s _ _ _ T862 (mkF m 132 #[iv i0, iv i1, iv i2, iv i3, .val (.long j4), .second, .val (.long j5), .second, iv (2 : Int32), iv xv, iv yv, iv zv, rv a802, .val (.long j4), .second, .val (.long j5), .second, .val (.long (j4 ^^^ (-1 : Int64))), .second, .val (.long (j4 ^^^ j5)), .second, rv a841] [(.int (0 : Int32)), (.ref a841)])
      obtain ⟨cl864, A864, -, S864, M864, H864, -⟩ := id V862
      have B864 := inb_of S864 (j := (0 : Int32)) (by decide)
      refine go (fun _ => X862.laload hx (j := (0 : Int32)) (v := (.long ((own_add (own_add (own_f j4 j5 (j4 ^^^ (-1 : Int64)) (j4 ^^^ j5)) ij0.toNatClampNeg wj0) ij1.toNatClampNeg wj1) 0))) (by rw [e862]; exact A864.1) (State.isArrayOf_alike hZ.alike A864.2.1) A864.2.2 B864 (H864.at B864 rfl) (g := (mkF m 132 #[iv i0, iv i1, iv i2, iv i3, .val (.long j4), .second, .val (.long j5), .second, iv (2 : Int32), iv xv, iv yv, iv zv, rv a802, .val (.long j4), .second, .val (.long j5), .second, .val (.long (j4 ^^^ (-1 : Int64))), .second, .val (.long (j4 ^^^ j5)), .second, rv a841] [(.int (0 : Int32)), (.ref a841)])) rfl rfl (hb hby at_132) _) ?_
      show Ends p e below s _ _ _ T862 (mkF m 133 #[iv i0, iv i1, iv i2, iv i3, .val (.long j4), .second, .val (.long j5), .second, iv (2 : Int32), iv xv, iv yv, iv zv, rv a802, .val (.long j4), .second, .val (.long j5), .second, .val (.long (j4 ^^^ (-1 : Int64))), .second, .val (.long (j4 ^^^ j5)), .second, rv a841] [(.long ((own_add (own_add (own_f j4 j5 (j4 ^^^ (-1 : Int64)) (j4 ^^^ j5)) ij0.toNatClampNeg wj0) ij1.toNatClampNeg wj1) 0))])
      refine go (fun _ => XT.iconstV X862.here hx rfl (0 : Int32) (hb hby at_133) (by decide)) ?_
      refine go (fun _ => XT.lload X862.here hx rfl (hb hby at_134) rfl) ?_
      refine go (fun _ => XS.iload X862.here hx rfl (hb hby at_136) rfl) ?_
      refine go (fun _ => XS.iload X862.here hx rfl (hb hby at_138) rfl) ?_
      refine go (fun _ => XS.iload X862.here hx rfl (hb hby at_140) rfl) ?_
      refine go (fun _ => XS.iload X862.here hx rfl (hb hby at_142) rfl) ?_
      show Ends p e below s _ _ _ T862 (mkF m 144 #[iv i0, iv i1, iv i2, iv i3, .val (.long j4), .second, .val (.long j5), .second, iv (2 : Int32), iv xv, iv yv, iv zv, rv a802, .val (.long j4), .second, .val (.long j5), .second, .val (.long (j4 ^^^ (-1 : Int64))), .second, .val (.long (j4 ^^^ j5)), .second, rv a841] [(.int zv), (.int yv), (.int xv), (.int (2 : Int32)), (.long j4), (.int (0 : Int32)), (.long ((own_add (own_add (own_f j4 j5 (j4 ^^^ (-1 : Int64)) (j4 ^^^ j5)) ij0.toNatClampNeg wj0) ij1.toNatClampNeg wj1) 0))])
      refine cStat X862 hx hZ hown (by rw [hml]; rfl) e862 (hwi hw 65 rfl) (hwi hw 66 rfl) (hwi hw 67 rfl) (hwi hw 68 rfl) [(.int (0 : Int32)), (.long j4), (.int (2 : Int32)), (.int xv), (.int yv), (.int zv)] [(.long ((own_add (own_add (own_f j4 j5 (j4 ^^^ (-1 : Int64)) (j4 ^^^ j5)) ij0.toNatClampNeg wj0) ij1.toNatClampNeg wj1) 0))] rfl (rm_exp2 hw (0 : Int32) j4 xv yv zv _) (hb hby at_144) rfl (lenOf pd_13 rfl) (by decide) (by decide) (Nat.le_of_ble_eq_true rfl) (by decide) (by decide) ?_
      rintro v865 T865 h865 L865 X865 e865 ⟨rfl, N865, rfl⟩
      have N865a := Fr.app N862a N865
      show Ends p e below s _ _ _ T865 (mkF m 147 #[iv i0, iv i1, iv i2, iv i3, .val (.long j4), .second, .val (.long j5), .second, iv (2 : Int32), iv xv, iv yv, iv zv, rv a802, .val (.long j4), .second, .val (.long j5), .second, .val (.long (j4 ^^^ (-1 : Int64))), .second, .val (.long (j4 ^^^ j5)), .second, rv a841] [(.long (own_acc (XT.ushr yv (6 : Int32)) (0 : Int32) (own_acc (XT.ushr xv (6 : Int32)) (0 : Int32) j4 ((1 : Int64) <<< (xv.toInt64 &&& 63))) ((1 : Int64) <<< (yv.toInt64 &&& 63)))), (.long ((own_add (own_add (own_f j4 j5 (j4 ^^^ (-1 : Int64)) (j4 ^^^ j5)) ij0.toNatClampNeg wj0) ij1.toNatClampNeg wj1) 0))])
      refine go (fun _ => XT.lcmp X865.here hx rfl (hb hby at_147) rfl) ?_
      show Ends p e below s _ _ _ T865 (mkF m 148 #[iv i0, iv i1, iv i2, iv i3, .val (.long j4), .second, .val (.long j5), .second, iv (2 : Int32), iv xv, iv yv, iv zv, rv a802, .val (.long j4), .second, .val (.long j5), .second, .val (.long (j4 ^^^ (-1 : Int64))), .second, .val (.long (j4 ^^^ j5)), .second, rv a841] [(.int (XT.cmpL ((own_add (own_add (own_f j4 j5 (j4 ^^^ (-1 : Int64)) (j4 ^^^ j5)) ij0.toNatClampNeg wj0) ij1.toNatClampNeg wj1) 0) (own_acc (XT.ushr yv (6 : Int32)) (0 : Int32) (own_acc (XT.ushr xv (6 : Int32)) (0 : Int32) j4 ((1 : Int64) <<< (xv.toInt64 &&& 63))) ((1 : Int64) <<< (yv.toInt64 &&& 63)))))])
      refine go (fun _ => XS.ifNo X865.here hx rfl (hb hby at_148) rfl (XT.ll_ne_f qj0)) ?_
      show Ends p e below s _ _ _ T865 (mkF m 151 #[iv i0, iv i1, iv i2, iv i3, .val (.long j4), .second, .val (.long j5), .second, iv (2 : Int32), iv xv, iv yv, iv zv, rv a802, .val (.long j4), .second, .val (.long j5), .second, .val (.long (j4 ^^^ (-1 : Int64))), .second, .val (.long (j4 ^^^ j5)), .second, rv a841] [])
      refine go (fun _ => XS.aload X865.here hx rfl (hb hby at_151) rfl rfl) ?_
      refine go (fun _ => XT.iconstV X865.here hx rfl (1 : Int32) (hb hby at_153) (by decide)) ?_
      show Ends p e below s _ _ _ T865 (mkF m 154 #[iv i0, iv i1, iv i2, iv i3, .val (.long j4), .second, .val (.long j5), .second, iv (2 : Int32), iv xv, iv yv, iv zv, rv a802, .val (.long j4), .second, .val (.long j5), .second, .val (.long (j4 ^^^ (-1 : Int64))), .second, .val (.long (j4 ^^^ j5)), .second, rv a841] [(.int (1 : Int32)), (.ref a841)])
      obtain ⟨cl866, A866, -, S866, M866, H866, -⟩ := id V862
      have B866 := inb_of S866 (j := (1 : Int32)) (by decide)
      refine go (fun _ => X865.laload hx (j := (1 : Int32)) (v := (.long ((own_add (own_add (own_f j4 j5 (j4 ^^^ (-1 : Int64)) (j4 ^^^ j5)) ij0.toNatClampNeg wj0) ij1.toNatClampNeg wj1) 1))) (by rw [e865]; exact A866.1) (State.isArrayOf_alike hZ.alike A866.2.1) A866.2.2 B866 (H866.at B866 rfl) (g := (mkF m 154 #[iv i0, iv i1, iv i2, iv i3, .val (.long j4), .second, .val (.long j5), .second, iv (2 : Int32), iv xv, iv yv, iv zv, rv a802, .val (.long j4), .second, .val (.long j5), .second, .val (.long (j4 ^^^ (-1 : Int64))), .second, .val (.long (j4 ^^^ j5)), .second, rv a841] [(.int (1 : Int32)), (.ref a841)])) rfl rfl (hb hby at_154) _) ?_
      show Ends p e below s _ _ _ T865 (mkF m 155 #[iv i0, iv i1, iv i2, iv i3, .val (.long j4), .second, .val (.long j5), .second, iv (2 : Int32), iv xv, iv yv, iv zv, rv a802, .val (.long j4), .second, .val (.long j5), .second, .val (.long (j4 ^^^ (-1 : Int64))), .second, .val (.long (j4 ^^^ j5)), .second, rv a841] [(.long ((own_add (own_add (own_f j4 j5 (j4 ^^^ (-1 : Int64)) (j4 ^^^ j5)) ij0.toNatClampNeg wj0) ij1.toNatClampNeg wj1) 1))])
      refine go (fun _ => XT.iconstV X865.here hx rfl (1 : Int32) (hb hby at_155) (by decide)) ?_
      refine go (fun _ => XT.lload X865.here hx rfl (hb hby at_156) rfl) ?_
      refine go (fun _ => XS.iload X865.here hx rfl (hb hby at_158) rfl) ?_
      refine go (fun _ => XS.iload X865.here hx rfl (hb hby at_160) rfl) ?_
      refine go (fun _ => XS.iload X865.here hx rfl (hb hby at_162) rfl) ?_
      refine go (fun _ => XS.iload X865.here hx rfl (hb hby at_164) rfl) ?_
      show Ends p e below s _ _ _ T865 (mkF m 166 #[iv i0, iv i1, iv i2, iv i3, .val (.long j4), .second, .val (.long j5), .second, iv (2 : Int32), iv xv, iv yv, iv zv, rv a802, .val (.long j4), .second, .val (.long j5), .second, .val (.long (j4 ^^^ (-1 : Int64))), .second, .val (.long (j4 ^^^ j5)), .second, rv a841] [(.int zv), (.int yv), (.int xv), (.int (2 : Int32)), (.long j5), (.int (1 : Int32)), (.long ((own_add (own_add (own_f j4 j5 (j4 ^^^ (-1 : Int64)) (j4 ^^^ j5)) ij0.toNatClampNeg wj0) ij1.toNatClampNeg wj1) 1))])
      refine cStat X865 hx hZ hown (by rw [hml]; rfl) e865 (hwi hw 65 rfl) (hwi hw 66 rfl) (hwi hw 67 rfl) (hwi hw 68 rfl) [(.int (1 : Int32)), (.long j5), (.int (2 : Int32)), (.int xv), (.int yv), (.int zv)] [(.long ((own_add (own_add (own_f j4 j5 (j4 ^^^ (-1 : Int64)) (j4 ^^^ j5)) ij0.toNatClampNeg wj0) ij1.toNatClampNeg wj1) 1))] rfl (rm_exp2 hw (1 : Int32) j5 xv yv zv _) (hb hby at_166) rfl (lenOf pd_13 rfl) (by decide) (by decide) (Nat.le_of_ble_eq_true rfl) (by decide) (by decide) ?_
      rintro v867 T867 h867 L867 X867 e867 ⟨rfl, N867, rfl⟩
      have N867a := Fr.app N865a N867
      show Ends p e below s _ _ _ T867 (mkF m 169 #[iv i0, iv i1, iv i2, iv i3, .val (.long j4), .second, .val (.long j5), .second, iv (2 : Int32), iv xv, iv yv, iv zv, rv a802, .val (.long j4), .second, .val (.long j5), .second, .val (.long (j4 ^^^ (-1 : Int64))), .second, .val (.long (j4 ^^^ j5)), .second, rv a841] [(.long (own_acc (XT.ushr yv (6 : Int32)) (1 : Int32) (own_acc (XT.ushr xv (6 : Int32)) (1 : Int32) j5 ((1 : Int64) <<< (xv.toInt64 &&& 63))) ((1 : Int64) <<< (yv.toInt64 &&& 63)))), (.long ((own_add (own_add (own_f j4 j5 (j4 ^^^ (-1 : Int64)) (j4 ^^^ j5)) ij0.toNatClampNeg wj0) ij1.toNatClampNeg wj1) 1))])
      refine go (fun _ => XT.lcmp X867.here hx rfl (hb hby at_169) rfl) ?_
      show Ends p e below s _ _ _ T867 (mkF m 170 #[iv i0, iv i1, iv i2, iv i3, .val (.long j4), .second, .val (.long j5), .second, iv (2 : Int32), iv xv, iv yv, iv zv, rv a802, .val (.long j4), .second, .val (.long j5), .second, .val (.long (j4 ^^^ (-1 : Int64))), .second, .val (.long (j4 ^^^ j5)), .second, rv a841] [(.int (XT.cmpL ((own_add (own_add (own_f j4 j5 (j4 ^^^ (-1 : Int64)) (j4 ^^^ j5)) ij0.toNatClampNeg wj0) ij1.toNatClampNeg wj1) 1) (own_acc (XT.ushr yv (6 : Int32)) (1 : Int32) (own_acc (XT.ushr xv (6 : Int32)) (1 : Int32) j5 ((1 : Int64) <<< (xv.toInt64 &&& 63))) ((1 : Int64) <<< (yv.toInt64 &&& 63)))))])
      refine go (fun _ => XS.ifNo X867.here hx rfl (hb hby at_170) rfl (XT.ll_ne_f qj1)) ?_
      show Ends p e below s _ _ _ T867 (mkF m 173 #[iv i0, iv i1, iv i2, iv i3, .val (.long j4), .second, .val (.long j5), .second, iv (2 : Int32), iv xv, iv yv, iv zv, rv a802, .val (.long j4), .second, .val (.long j5), .second, .val (.long (j4 ^^^ (-1 : Int64))), .second, .val (.long (j4 ^^^ j5)), .second, rv a841] [])
      refine go (fun _ => XS.aload X867.here hx rfl (hb hby at_173) rfl rfl) ?_
      refine go (fun _ => XT.iconstV X867.here hx rfl (2 : Int32) (hb hby at_175) (by decide)) ?_
      show Ends p e below s _ _ _ T867 (mkF m 176 #[iv i0, iv i1, iv i2, iv i3, .val (.long j4), .second, .val (.long j5), .second, iv (2 : Int32), iv xv, iv yv, iv zv, rv a802, .val (.long j4), .second, .val (.long j5), .second, .val (.long (j4 ^^^ (-1 : Int64))), .second, .val (.long (j4 ^^^ j5)), .second, rv a841] [(.int (2 : Int32)), (.ref a841)])
      obtain ⟨cl868, A868, -, S868, M868, H868, -⟩ := id V862
      have B868 := inb_of S868 (j := (2 : Int32)) (by decide)
      refine go (fun _ => X867.laload hx (j := (2 : Int32)) (v := (.long ((own_add (own_add (own_f j4 j5 (j4 ^^^ (-1 : Int64)) (j4 ^^^ j5)) ij0.toNatClampNeg wj0) ij1.toNatClampNeg wj1) 2))) (by rw [e867]; exact A868.1) (State.isArrayOf_alike hZ.alike A868.2.1) A868.2.2 B868 (H868.at B868 rfl) (g := (mkF m 176 #[iv i0, iv i1, iv i2, iv i3, .val (.long j4), .second, .val (.long j5), .second, iv (2 : Int32), iv xv, iv yv, iv zv, rv a802, .val (.long j4), .second, .val (.long j5), .second, .val (.long (j4 ^^^ (-1 : Int64))), .second, .val (.long (j4 ^^^ j5)), .second, rv a841] [(.int (2 : Int32)), (.ref a841)])) rfl rfl (hb hby at_176) _) ?_
      show Ends p e below s _ _ _ T867 (mkF m 177 #[iv i0, iv i1, iv i2, iv i3, .val (.long j4), .second, .val (.long j5), .second, iv (2 : Int32), iv xv, iv yv, iv zv, rv a802, .val (.long j4), .second, .val (.long j5), .second, .val (.long (j4 ^^^ (-1 : Int64))), .second, .val (.long (j4 ^^^ j5)), .second, rv a841] [(.long ((own_add (own_add (own_f j4 j5 (j4 ^^^ (-1 : Int64)) (j4 ^^^ j5)) ij0.toNatClampNeg wj0) ij1.toNatClampNeg wj1) 2))])
      refine go (fun _ => XT.iconstV X867.here hx rfl (2 : Int32) (hb hby at_177) (by decide)) ?_
      refine go (fun _ => XT.lload X867.here hx rfl (hb hby at_178) rfl) ?_
      refine go (fun _ => XS.iload X867.here hx rfl (hb hby at_180) rfl) ?_
      refine go (fun _ => XS.iload X867.here hx rfl (hb hby at_182) rfl) ?_
      refine go (fun _ => XS.iload X867.here hx rfl (hb hby at_184) rfl) ?_
      refine go (fun _ => XS.iload X867.here hx rfl (hb hby at_186) rfl) ?_
      show Ends p e below s _ _ _ T867 (mkF m 188 #[iv i0, iv i1, iv i2, iv i3, .val (.long j4), .second, .val (.long j5), .second, iv (2 : Int32), iv xv, iv yv, iv zv, rv a802, .val (.long j4), .second, .val (.long j5), .second, .val (.long (j4 ^^^ (-1 : Int64))), .second, .val (.long (j4 ^^^ j5)), .second, rv a841] [(.int zv), (.int yv), (.int xv), (.int (2 : Int32)), (.long (j4 ^^^ (-1 : Int64))), (.int (2 : Int32)), (.long ((own_add (own_add (own_f j4 j5 (j4 ^^^ (-1 : Int64)) (j4 ^^^ j5)) ij0.toNatClampNeg wj0) ij1.toNatClampNeg wj1) 2))])
      refine cStat X867 hx hZ hown (by rw [hml]; rfl) e867 (hwi hw 65 rfl) (hwi hw 66 rfl) (hwi hw 67 rfl) (hwi hw 68 rfl) [(.int (2 : Int32)), (.long (j4 ^^^ (-1 : Int64))), (.int (2 : Int32)), (.int xv), (.int yv), (.int zv)] [(.long ((own_add (own_add (own_f j4 j5 (j4 ^^^ (-1 : Int64)) (j4 ^^^ j5)) ij0.toNatClampNeg wj0) ij1.toNatClampNeg wj1) 2))] rfl (rm_exp2 hw (2 : Int32) (j4 ^^^ (-1 : Int64)) xv yv zv _) (hb hby at_188) rfl (lenOf pd_13 rfl) (by decide) (by decide) (Nat.le_of_ble_eq_true rfl) (by decide) (by decide) ?_
      rintro v869 T869 h869 L869 X869 e869 ⟨rfl, N869, rfl⟩
      have N869a := Fr.app N867a N869
      show Ends p e below s _ _ _ T869 (mkF m 191 #[iv i0, iv i1, iv i2, iv i3, .val (.long j4), .second, .val (.long j5), .second, iv (2 : Int32), iv xv, iv yv, iv zv, rv a802, .val (.long j4), .second, .val (.long j5), .second, .val (.long (j4 ^^^ (-1 : Int64))), .second, .val (.long (j4 ^^^ j5)), .second, rv a841] [(.long (own_acc (XT.ushr yv (6 : Int32)) (2 : Int32) (own_acc (XT.ushr xv (6 : Int32)) (2 : Int32) (j4 ^^^ (-1 : Int64)) ((1 : Int64) <<< (xv.toInt64 &&& 63))) ((1 : Int64) <<< (yv.toInt64 &&& 63)))), (.long ((own_add (own_add (own_f j4 j5 (j4 ^^^ (-1 : Int64)) (j4 ^^^ j5)) ij0.toNatClampNeg wj0) ij1.toNatClampNeg wj1) 2))])
      refine go (fun _ => XT.lcmp X869.here hx rfl (hb hby at_191) rfl) ?_
      show Ends p e below s _ _ _ T869 (mkF m 192 #[iv i0, iv i1, iv i2, iv i3, .val (.long j4), .second, .val (.long j5), .second, iv (2 : Int32), iv xv, iv yv, iv zv, rv a802, .val (.long j4), .second, .val (.long j5), .second, .val (.long (j4 ^^^ (-1 : Int64))), .second, .val (.long (j4 ^^^ j5)), .second, rv a841] [(.int (XT.cmpL ((own_add (own_add (own_f j4 j5 (j4 ^^^ (-1 : Int64)) (j4 ^^^ j5)) ij0.toNatClampNeg wj0) ij1.toNatClampNeg wj1) 2) (own_acc (XT.ushr yv (6 : Int32)) (2 : Int32) (own_acc (XT.ushr xv (6 : Int32)) (2 : Int32) (j4 ^^^ (-1 : Int64)) ((1 : Int64) <<< (xv.toInt64 &&& 63))) ((1 : Int64) <<< (yv.toInt64 &&& 63)))))])
      refine go (fun _ => XS.ifNo X869.here hx rfl (hb hby at_192) rfl (XT.ll_ne_f qj2)) ?_
      show Ends p e below s _ _ _ T869 (mkF m 195 #[iv i0, iv i1, iv i2, iv i3, .val (.long j4), .second, .val (.long j5), .second, iv (2 : Int32), iv xv, iv yv, iv zv, rv a802, .val (.long j4), .second, .val (.long j5), .second, .val (.long (j4 ^^^ (-1 : Int64))), .second, .val (.long (j4 ^^^ j5)), .second, rv a841] [])
      refine go (fun _ => XS.aload X869.here hx rfl (hb hby at_195) rfl rfl) ?_
      refine go (fun _ => XT.iconstV X869.here hx rfl (3 : Int32) (hb hby at_197) (by decide)) ?_
      show Ends p e below s _ _ _ T869 (mkF m 198 #[iv i0, iv i1, iv i2, iv i3, .val (.long j4), .second, .val (.long j5), .second, iv (2 : Int32), iv xv, iv yv, iv zv, rv a802, .val (.long j4), .second, .val (.long j5), .second, .val (.long (j4 ^^^ (-1 : Int64))), .second, .val (.long (j4 ^^^ j5)), .second, rv a841] [(.int (3 : Int32)), (.ref a841)])
      obtain ⟨cl870, A870, -, S870, M870, H870, -⟩ := id V862
      have B870 := inb_of S870 (j := (3 : Int32)) (by decide)
      refine go (fun _ => X869.laload hx (j := (3 : Int32)) (v := (.long ((own_add (own_add (own_f j4 j5 (j4 ^^^ (-1 : Int64)) (j4 ^^^ j5)) ij0.toNatClampNeg wj0) ij1.toNatClampNeg wj1) 3))) (by rw [e869]; exact A870.1) (State.isArrayOf_alike hZ.alike A870.2.1) A870.2.2 B870 (H870.at B870 rfl) (g := (mkF m 198 #[iv i0, iv i1, iv i2, iv i3, .val (.long j4), .second, .val (.long j5), .second, iv (2 : Int32), iv xv, iv yv, iv zv, rv a802, .val (.long j4), .second, .val (.long j5), .second, .val (.long (j4 ^^^ (-1 : Int64))), .second, .val (.long (j4 ^^^ j5)), .second, rv a841] [(.int (3 : Int32)), (.ref a841)])) rfl rfl (hb hby at_198) _) ?_
      show Ends p e below s _ _ _ T869 (mkF m 199 #[iv i0, iv i1, iv i2, iv i3, .val (.long j4), .second, .val (.long j5), .second, iv (2 : Int32), iv xv, iv yv, iv zv, rv a802, .val (.long j4), .second, .val (.long j5), .second, .val (.long (j4 ^^^ (-1 : Int64))), .second, .val (.long (j4 ^^^ j5)), .second, rv a841] [(.long ((own_add (own_add (own_f j4 j5 (j4 ^^^ (-1 : Int64)) (j4 ^^^ j5)) ij0.toNatClampNeg wj0) ij1.toNatClampNeg wj1) 3))])
      refine go (fun _ => XT.iconstV X869.here hx rfl (3 : Int32) (hb hby at_199) (by decide)) ?_
      refine go (fun _ => XT.lload X869.here hx rfl (hb hby at_200) rfl) ?_
      refine go (fun _ => XS.iload X869.here hx rfl (hb hby at_202) rfl) ?_
      refine go (fun _ => XS.iload X869.here hx rfl (hb hby at_204) rfl) ?_
      refine go (fun _ => XS.iload X869.here hx rfl (hb hby at_206) rfl) ?_
      refine go (fun _ => XS.iload X869.here hx rfl (hb hby at_208) rfl) ?_
      show Ends p e below s _ _ _ T869 (mkF m 210 #[iv i0, iv i1, iv i2, iv i3, .val (.long j4), .second, .val (.long j5), .second, iv (2 : Int32), iv xv, iv yv, iv zv, rv a802, .val (.long j4), .second, .val (.long j5), .second, .val (.long (j4 ^^^ (-1 : Int64))), .second, .val (.long (j4 ^^^ j5)), .second, rv a841] [(.int zv), (.int yv), (.int xv), (.int (2 : Int32)), (.long (j4 ^^^ j5)), (.int (3 : Int32)), (.long ((own_add (own_add (own_f j4 j5 (j4 ^^^ (-1 : Int64)) (j4 ^^^ j5)) ij0.toNatClampNeg wj0) ij1.toNatClampNeg wj1) 3))])
      refine cStat X869 hx hZ hown (by rw [hml]; rfl) e869 (hwi hw 65 rfl) (hwi hw 66 rfl) (hwi hw 67 rfl) (hwi hw 68 rfl) [(.int (3 : Int32)), (.long (j4 ^^^ j5)), (.int (2 : Int32)), (.int xv), (.int yv), (.int zv)] [(.long ((own_add (own_add (own_f j4 j5 (j4 ^^^ (-1 : Int64)) (j4 ^^^ j5)) ij0.toNatClampNeg wj0) ij1.toNatClampNeg wj1) 3))] rfl (rm_exp2 hw (3 : Int32) (j4 ^^^ j5) xv yv zv _) (hb hby at_210) rfl (lenOf pd_13 rfl) (by decide) (by decide) (Nat.le_of_ble_eq_true rfl) (by decide) (by decide) ?_
      rintro v871 T871 h871 L871 X871 e871 ⟨rfl, N871, rfl⟩
      have N871a := Fr.app N869a N871
      show Ends p e below s _ _ _ T871 (mkF m 213 #[iv i0, iv i1, iv i2, iv i3, .val (.long j4), .second, .val (.long j5), .second, iv (2 : Int32), iv xv, iv yv, iv zv, rv a802, .val (.long j4), .second, .val (.long j5), .second, .val (.long (j4 ^^^ (-1 : Int64))), .second, .val (.long (j4 ^^^ j5)), .second, rv a841] [(.long (own_acc (XT.ushr yv (6 : Int32)) (3 : Int32) (own_acc (XT.ushr xv (6 : Int32)) (3 : Int32) (j4 ^^^ j5) ((1 : Int64) <<< (xv.toInt64 &&& 63))) ((1 : Int64) <<< (yv.toInt64 &&& 63)))), (.long ((own_add (own_add (own_f j4 j5 (j4 ^^^ (-1 : Int64)) (j4 ^^^ j5)) ij0.toNatClampNeg wj0) ij1.toNatClampNeg wj1) 3))])
      refine go (fun _ => XT.lcmp X871.here hx rfl (hb hby at_213) rfl) ?_
      show Ends p e below s _ _ _ T871 (mkF m 214 #[iv i0, iv i1, iv i2, iv i3, .val (.long j4), .second, .val (.long j5), .second, iv (2 : Int32), iv xv, iv yv, iv zv, rv a802, .val (.long j4), .second, .val (.long j5), .second, .val (.long (j4 ^^^ (-1 : Int64))), .second, .val (.long (j4 ^^^ j5)), .second, rv a841] [(.int (XT.cmpL ((own_add (own_add (own_f j4 j5 (j4 ^^^ (-1 : Int64)) (j4 ^^^ j5)) ij0.toNatClampNeg wj0) ij1.toNatClampNeg wj1) 3) (own_acc (XT.ushr yv (6 : Int32)) (3 : Int32) (own_acc (XT.ushr xv (6 : Int32)) (3 : Int32) (j4 ^^^ j5) ((1 : Int64) <<< (xv.toInt64 &&& 63))) ((1 : Int64) <<< (yv.toInt64 &&& 63)))))])
      refine go (fun _ => XS.ifNo X871.here hx rfl (hb hby at_214) rfl (XT.ll_ne_f qj3)) ?_
      show Ends p e below s _ _ _ T871 (mkF m 217 #[iv i0, iv i1, iv i2, iv i3, .val (.long j4), .second, .val (.long j5), .second, iv (2 : Int32), iv xv, iv yv, iv zv, rv a802, .val (.long j4), .second, .val (.long j5), .second, .val (.long (j4 ^^^ (-1 : Int64))), .second, .val (.long (j4 ^^^ j5)), .second, rv a841] [])
      refine go (fun _ => XT.iconstV X871.here hx rfl (1 : Int32) (hb hby at_217) (by decide)) ?_
      refine go (fun _ => XS.goto X871.here hx rfl (pc0 := 218) (pc' := 222) rfl (hb hby at_218) (by decide) (by decide)) ?_
      show Ends p e below s _ _ _ T871 (mkF m 222 #[iv i0, iv i1, iv i2, iv i3, .val (.long j4), .second, .val (.long j5), .second, iv (2 : Int32), iv xv, iv yv, iv zv, rv a802, .val (.long j4), .second, .val (.long j5), .second, .val (.long (j4 ^^^ (-1 : Int64))), .second, .val (.long (j4 ^^^ j5)), .second, rv a841] [(.int (1 : Int32))])
      exact endN X871 hx hlk hret (by simp) (hb hby at_222) e871 ⟨rfl, N871a⟩ (by decide) (by decide)
    refine go (fun _ => XS.iload X808.here hx rfl (hb hby at_35) rfl) ?_
    refine go (fun _ => XT.iconstV X808.here hx rfl (1 : Int32) (hb hby at_37) (by decide)) ?_
    show Ends p e below s _ _ _ T808 (mkF m 38 #[iv i0, iv i1, iv i2, iv i3, .val (.long j4), .second, .val (.long j5), .second, iv (2 : Int32), iv xv, iv yv, iv zv, rv a802, .unset, .unset, .unset, .unset, .unset, .unset, .unset, .unset, .unset] [(.int (1 : Int32)), (.int (2 : Int32))])
    refine go (fun _ => XS.icmpNo X808.here hx rfl (hb hby at_38) rfl (XT.ii_lt_f ((by decide) : ¬ ((2 : Int32) < (1 : Int32))))) ?_
    show Ends p e below s _ _ _ T808 (mkF m 41 #[iv i0, iv i1, iv i2, iv i3, .val (.long j4), .second, .val (.long j5), .second, iv (2 : Int32), iv xv, iv yv, iv zv, rv a802, .unset, .unset, .unset, .unset, .unset, .unset, .unset, .unset, .unset] [])
    refine go (fun _ => XS.aload X808.here hx rfl (hb hby at_41) rfl rfl) ?_
    refine go (fun _ => XS.iload X808.here hx rfl (hb hby at_43) rfl) ?_
    show Ends p e below s _ _ _ T808 (mkF m 45 #[iv i0, iv i1, iv i2, iv i3, .val (.long j4), .second, .val (.long j5), .second, iv (2 : Int32), iv xv, iv yv, iv zv, rv a802, .unset, .unset, .unset, .unset, .unset, .unset, .unset, .unset, .unset] [(.int xv), (.ref a802)])
    have nI : a802 ≠ aI := (Nat.ne_of_lt (Nat.lt_of_lt_of_le (av_11).lt f802)).symm
    have nW : a802 ≠ aW := (Nat.ne_of_lt (Nat.lt_of_lt_of_le (av_12).lt f802)).symm
    have F872 := (Exa.keep A802 K808)
    refine cVirt X808 hx hZ hown (by rw [hml]; rfl) e808 (hwi hw 17 rfl) (hwi hw 18 rfl) (hwi hw 20 rfl) (hwi hw 19 rfl) (hwi hw 2 rfl) (hwi hw 21 rfl) (notFace_of_selects (args := #[]) (mvT hZ (hwi hw 20 rfl))) a802 F872 [(.int xv)] [] rfl (rm_set0 hw a802 aI aW k_aI k_aW  xv _ O809 f802 F872 Q808_0 Q808_1 Q808_2 Q808_3 (Arv.ext av_11 O809) (Arv.ext av_12 O809) nI nW) (hb hby at_45) rfl (lenOf pd_5 rfl) (by decide) (by decide) (Nat.le_of_ble_eq_true rfl) (by decide) (by decide) ?_
    rintro v873 T873 h873 L873 X873 e873 ⟨rfl, N873, ⟨bi873, bw873, k1873, k2873, K873, ga873, gb873, nn873, Q873_0, Q873_1, Q873_2, Q873_3, Q873_4, Q873_5⟩⟩
    have N873a := Fr.app N808a N873
    have n874 : a802 ≠ bi873 := Nat.ne_of_lt (Nat.lt_of_lt_of_le (F872.lt) ga873)
    have f875 : Z.heap.size ≤ bi873 := Nat.le_trans (O809).1 ga873
    have n876 : a802 ≠ bw873 := Nat.ne_of_lt (Nat.lt_of_lt_of_le (F872.lt) gb873)
    have f877 : Z.heap.size ≤ bw873 := Nat.le_trans (O809).1 gb873
    have O878 : Ext Z.heap h873 := xk O809 K873 (allS f802 all0)
    show Ends p e below s _ _ _ T873 (mkF m 48 #[iv i0, iv i1, iv i2, iv i3, .val (.long j4), .second, .val (.long j5), .second, iv (2 : Int32), iv xv, iv yv, iv zv, rv a802, .unset, .unset, .unset, .unset, .unset, .unset, .unset, .unset, .unset] [])
    refine go (fun _ => XS.iload X873.here hx rfl (hb hby at_48) rfl) ?_
    refine go (fun _ => XT.iconstV X873.here hx rfl (2 : Int32) (hb hby at_50) (by decide)) ?_
    show Ends p e below s _ _ _ T873 (mkF m 51 #[iv i0, iv i1, iv i2, iv i3, .val (.long j4), .second, .val (.long j5), .second, iv (2 : Int32), iv xv, iv yv, iv zv, rv a802, .unset, .unset, .unset, .unset, .unset, .unset, .unset, .unset, .unset] [(.int (2 : Int32)), (.int (2 : Int32))])
    refine go (fun _ => XS.icmpNo X873.here hx rfl (hb hby at_51) rfl (XT.ii_lt_f ((by decide) : ¬ ((2 : Int32) < (2 : Int32))))) ?_
    show Ends p e below s _ _ _ T873 (mkF m 54 #[iv i0, iv i1, iv i2, iv i3, .val (.long j4), .second, .val (.long j5), .second, iv (2 : Int32), iv xv, iv yv, iv zv, rv a802, .unset, .unset, .unset, .unset, .unset, .unset, .unset, .unset, .unset] [])
    refine go (fun _ => XS.aload X873.here hx rfl (hb hby at_54) rfl rfl) ?_
    refine go (fun _ => XS.iload X873.here hx rfl (hb hby at_56) rfl) ?_
    show Ends p e below s _ _ _ T873 (mkF m 58 #[iv i0, iv i1, iv i2, iv i3, .val (.long j4), .second, .val (.long j5), .second, iv (2 : Int32), iv xv, iv yv, iv zv, rv a802, .unset, .unset, .unset, .unset, .unset, .unset, .unset, .unset, .unset] [(.int yv), (.ref a802)])
    have F879 := (Exa.keep F872 K873)
    refine cVirt X873 hx hZ hown (by rw [hml]; rfl) e873 (hwi hw 17 rfl) (hwi hw 18 rfl) (hwi hw 20 rfl) (hwi hw 19 rfl) (hwi hw 2 rfl) (hwi hw 21 rfl) (notFace_of_selects (args := #[]) (mvT hZ (hwi hw 20 rfl))) a802 F879 [(.int yv)] [] rfl (rm_set1 hw a802 bi873 bw873 k1873 k2873 (XT.ushr xv (6 : Int32)) ((0 : Int64) ||| ((1 : Int64) <<< (xv.toInt64 &&& 63))) yv _ O878 f802 F879 Q873_0 Q873_1 Q873_2 Q873_3 Q873_4 Q873_5 f875 f877 n874 n876 nn873) (hb hby at_58) rfl (lenOf pd_5 rfl) (by decide) (by decide) (Nat.le_of_ble_eq_true rfl) (by decide) (by decide) ?_
    rintro v880 T880 h880 L880 X880 e880 (⟨rfl, N880, cq880, ⟨K880, Q880_0, Q880_1, Q880_2, Q880_3, Q880_4, Q880_5⟩⟩ | ⟨rfl, N880, cq880, ⟨K880, Q880_0, Q880_1, Q880_2, Q880_3, Q880_4, Q880_5⟩⟩ | ⟨rfl, N880, cq880, ⟨K880, Q880_0, Q880_1, Q880_2, Q880_3, Q880_4, Q880_5⟩⟩)
    · have N880a := Fr.app N873a N880
      have O881 : Ext Z.heap h880 := xk O878 K880 (allS f802 (allS f875 (allS f877 all0)))
      show Ends p e below s _ _ _ T880 (mkF m 61 #[iv i0, iv i1, iv i2, iv i3, .val (.long j4), .second, .val (.long j5), .second, iv (2 : Int32), iv xv, iv yv, iv zv, rv a802, .unset, .unset, .unset, .unset, .unset, .unset, .unset, .unset, .unset] [])
      refine go (fun _ => XS.iload X880.here hx rfl (hb hby at_61) rfl) ?_
      refine go (fun _ => XT.iconstV X880.here hx rfl (3 : Int32) (hb hby at_63) (by decide)) ?_
      show Ends p e below s _ _ _ T880 (mkF m 64 #[iv i0, iv i1, iv i2, iv i3, .val (.long j4), .second, .val (.long j5), .second, iv (2 : Int32), iv xv, iv yv, iv zv, rv a802, .unset, .unset, .unset, .unset, .unset, .unset, .unset, .unset, .unset] [(.int (3 : Int32)), (.int (2 : Int32))])
      refine go (fun _ => XS.icmpYes X880.here hx rfl (pc0 := 64) (pc' := 74) rfl (hb hby at_64) rfl (XT.ii_lt_t ((by decide) : (2 : Int32) < (3 : Int32))) (by decide) (by decide)) ?_
      show Ends p e below s _ _ _ T880 (mkF m 74 #[iv i0, iv i1, iv i2, iv i3, .val (.long j4), .second, .val (.long j5), .second, iv (2 : Int32), iv xv, iv yv, iv zv, rv a802, .unset, .unset, .unset, .unset, .unset, .unset, .unset, .unset, .unset] [])
      have e882 : (own_add (own_add (own_f j4 j5 (j4 ^^^ (-1 : Int64)) (j4 ^^^ j5)) (XT.ushr yv (6 : Int32)).toNatClampNeg ((0 : Int64) ||| ((1 : Int64) <<< (yv.toInt64 &&& 63)))) (XT.ushr xv (6 : Int32)).toNatClampNeg ((0 : Int64) ||| ((1 : Int64) <<< (xv.toInt64 &&& 63)))) 0 = (own_acc (XT.ushr yv (6 : Int32)) (0 : Int32) (own_acc (XT.ushr xv (6 : Int32)) (0 : Int32) j4 ((1 : Int64) <<< (xv.toInt64 &&& 63))) ((1 : Int64) <<< (yv.toInt64 &&& 63))) := by
        rw [own_addacc (own_ix hxv) (kw := (0 : Int32)) (by decide) (by decide), own_addacc (own_ix hyv) (kw := (0 : Int32)) (by decide) (by decide)]
        show own_acc (XT.ushr xv (6 : Int32)) (0 : Int32) (own_acc (XT.ushr yv (6 : Int32)) (0 : Int32) (j4) ((0 : Int64) ||| ((1 : Int64) <<< (yv.toInt64 &&& 63)))) ((0 : Int64) ||| ((1 : Int64) <<< (xv.toInt64 &&& 63))) = _
        (try simp only [own_z]) <;> by_cases uxv : XT.ushr xv (6 : Int32) = (0 : Int32) <;> by_cases uyv : XT.ushr yv (6 : Int32) = (0 : Int32) <;> simp [own_acc, uxv, uyv, Int64.or_assoc, Int64.or_comm, own_orl]
      have e883 : (own_add (own_add (own_f j4 j5 (j4 ^^^ (-1 : Int64)) (j4 ^^^ j5)) (XT.ushr yv (6 : Int32)).toNatClampNeg ((0 : Int64) ||| ((1 : Int64) <<< (yv.toInt64 &&& 63)))) (XT.ushr xv (6 : Int32)).toNatClampNeg ((0 : Int64) ||| ((1 : Int64) <<< (xv.toInt64 &&& 63)))) 1 = (own_acc (XT.ushr yv (6 : Int32)) (1 : Int32) (own_acc (XT.ushr xv (6 : Int32)) (1 : Int32) j5 ((1 : Int64) <<< (xv.toInt64 &&& 63))) ((1 : Int64) <<< (yv.toInt64 &&& 63))) := by
        rw [own_addacc (own_ix hxv) (kw := (1 : Int32)) (by decide) (by decide), own_addacc (own_ix hyv) (kw := (1 : Int32)) (by decide) (by decide)]
        show own_acc (XT.ushr xv (6 : Int32)) (1 : Int32) (own_acc (XT.ushr yv (6 : Int32)) (1 : Int32) (j5) ((0 : Int64) ||| ((1 : Int64) <<< (yv.toInt64 &&& 63)))) ((0 : Int64) ||| ((1 : Int64) <<< (xv.toInt64 &&& 63))) = _
        (try simp only [own_z]) <;> by_cases uxv : XT.ushr xv (6 : Int32) = (1 : Int32) <;> by_cases uyv : XT.ushr yv (6 : Int32) = (1 : Int32) <;> simp [own_acc, uxv, uyv, Int64.or_assoc, Int64.or_comm, own_orl]
      have e884 : (own_add (own_add (own_f j4 j5 (j4 ^^^ (-1 : Int64)) (j4 ^^^ j5)) (XT.ushr yv (6 : Int32)).toNatClampNeg ((0 : Int64) ||| ((1 : Int64) <<< (yv.toInt64 &&& 63)))) (XT.ushr xv (6 : Int32)).toNatClampNeg ((0 : Int64) ||| ((1 : Int64) <<< (xv.toInt64 &&& 63)))) 2 = (own_acc (XT.ushr yv (6 : Int32)) (2 : Int32) (own_acc (XT.ushr xv (6 : Int32)) (2 : Int32) (j4 ^^^ (-1 : Int64)) ((1 : Int64) <<< (xv.toInt64 &&& 63))) ((1 : Int64) <<< (yv.toInt64 &&& 63))) := by
        rw [own_addacc (own_ix hxv) (kw := (2 : Int32)) (by decide) (by decide), own_addacc (own_ix hyv) (kw := (2 : Int32)) (by decide) (by decide)]
        show own_acc (XT.ushr xv (6 : Int32)) (2 : Int32) (own_acc (XT.ushr yv (6 : Int32)) (2 : Int32) ((j4 ^^^ (-1 : Int64))) ((0 : Int64) ||| ((1 : Int64) <<< (yv.toInt64 &&& 63)))) ((0 : Int64) ||| ((1 : Int64) <<< (xv.toInt64 &&& 63))) = _
        (try simp only [own_z]) <;> by_cases uxv : XT.ushr xv (6 : Int32) = (2 : Int32) <;> by_cases uyv : XT.ushr yv (6 : Int32) = (2 : Int32) <;> simp [own_acc, uxv, uyv, Int64.or_assoc, Int64.or_comm, own_orl]
      have e885 : (own_add (own_add (own_f j4 j5 (j4 ^^^ (-1 : Int64)) (j4 ^^^ j5)) (XT.ushr yv (6 : Int32)).toNatClampNeg ((0 : Int64) ||| ((1 : Int64) <<< (yv.toInt64 &&& 63)))) (XT.ushr xv (6 : Int32)).toNatClampNeg ((0 : Int64) ||| ((1 : Int64) <<< (xv.toInt64 &&& 63)))) 3 = (own_acc (XT.ushr yv (6 : Int32)) (3 : Int32) (own_acc (XT.ushr xv (6 : Int32)) (3 : Int32) (j4 ^^^ j5) ((1 : Int64) <<< (xv.toInt64 &&& 63))) ((1 : Int64) <<< (yv.toInt64 &&& 63))) := by
        rw [own_addacc (own_ix hxv) (kw := (3 : Int32)) (by decide) (by decide), own_addacc (own_ix hyv) (kw := (3 : Int32)) (by decide) (by decide)]
        show own_acc (XT.ushr xv (6 : Int32)) (3 : Int32) (own_acc (XT.ushr yv (6 : Int32)) (3 : Int32) ((j4 ^^^ j5)) ((0 : Int64) ||| ((1 : Int64) <<< (yv.toInt64 &&& 63)))) ((0 : Int64) ||| ((1 : Int64) <<< (xv.toInt64 &&& 63))) = _
        (try simp only [own_z]) <;> by_cases uxv : XT.ushr xv (6 : Int32) = (3 : Int32) <;> by_cases uyv : XT.ushr yv (6 : Int32) = (3 : Int32) <;> simp [own_acc, uxv, uyv, Int64.or_assoc, Int64.or_comm, own_orl]
      have F886 := (Exa.keep F879 K880)
      exact J2_2_0 _ _ _ bi873 bw873 k1873 k2873 (XT.ushr yv (6 : Int32)) (XT.ushr xv (6 : Int32)) ((0 : Int64) ||| ((1 : Int64) <<< (yv.toInt64 &&& 63))) ((0 : Int64) ||| ((1 : Int64) <<< (xv.toInt64 &&& 63))) (X880.more (by decide) (by decide)) e880 O881 N880a F886 Q880_0 Q880_1 Q880_2 Q880_3 Q880_4 Q880_5 f875 f877 n874 n876 nn873 (own_ix hyv) (own_ix hxv) e882 e883 e884 e885
    · have N880a := Fr.app N873a N880
      have O887 : Ext Z.heap h880 := xk O878 K880 (allS f802 (allS f875 (allS f877 all0)))
      show Ends p e below s _ _ _ T880 (mkF m 61 #[iv i0, iv i1, iv i2, iv i3, .val (.long j4), .second, .val (.long j5), .second, iv (2 : Int32), iv xv, iv yv, iv zv, rv a802, .unset, .unset, .unset, .unset, .unset, .unset, .unset, .unset, .unset] [])
      refine go (fun _ => XS.iload X880.here hx rfl (hb hby at_61) rfl) ?_
      refine go (fun _ => XT.iconstV X880.here hx rfl (3 : Int32) (hb hby at_63) (by decide)) ?_
      show Ends p e below s _ _ _ T880 (mkF m 64 #[iv i0, iv i1, iv i2, iv i3, .val (.long j4), .second, .val (.long j5), .second, iv (2 : Int32), iv xv, iv yv, iv zv, rv a802, .unset, .unset, .unset, .unset, .unset, .unset, .unset, .unset, .unset] [(.int (3 : Int32)), (.int (2 : Int32))])
      refine go (fun _ => XS.icmpYes X880.here hx rfl (pc0 := 64) (pc' := 74) rfl (hb hby at_64) rfl (XT.ii_lt_t ((by decide) : (2 : Int32) < (3 : Int32))) (by decide) (by decide)) ?_
      show Ends p e below s _ _ _ T880 (mkF m 74 #[iv i0, iv i1, iv i2, iv i3, .val (.long j4), .second, .val (.long j5), .second, iv (2 : Int32), iv xv, iv yv, iv zv, rv a802, .unset, .unset, .unset, .unset, .unset, .unset, .unset, .unset, .unset] [])
      have e888 : (own_add (own_f j4 j5 (j4 ^^^ (-1 : Int64)) (j4 ^^^ j5)) (XT.ushr xv (6 : Int32)).toNatClampNeg (((0 : Int64) ||| ((1 : Int64) <<< (xv.toInt64 &&& 63))) ||| ((1 : Int64) <<< (yv.toInt64 &&& 63)))) 0 = (own_acc (XT.ushr yv (6 : Int32)) (0 : Int32) (own_acc (XT.ushr xv (6 : Int32)) (0 : Int32) j4 ((1 : Int64) <<< (xv.toInt64 &&& 63))) ((1 : Int64) <<< (yv.toInt64 &&& 63))) := by
        rw [own_addacc (own_ix hxv) (kw := (0 : Int32)) (by decide) (by decide)]
        show own_acc (XT.ushr xv (6 : Int32)) (0 : Int32) (j4) (((0 : Int64) ||| ((1 : Int64) <<< (xv.toInt64 &&& 63))) ||| ((1 : Int64) <<< (yv.toInt64 &&& 63))) = _
        try rw [← cq880]
        (try simp only [own_z]) <;> by_cases uxv : XT.ushr xv (6 : Int32) = (0 : Int32) <;> simp [own_acc, uxv, Int64.or_assoc, Int64.or_comm, own_orl]
      have e889 : (own_add (own_f j4 j5 (j4 ^^^ (-1 : Int64)) (j4 ^^^ j5)) (XT.ushr xv (6 : Int32)).toNatClampNeg (((0 : Int64) ||| ((1 : Int64) <<< (xv.toInt64 &&& 63))) ||| ((1 : Int64) <<< (yv.toInt64 &&& 63)))) 1 = (own_acc (XT.ushr yv (6 : Int32)) (1 : Int32) (own_acc (XT.ushr xv (6 : Int32)) (1 : Int32) j5 ((1 : Int64) <<< (xv.toInt64 &&& 63))) ((1 : Int64) <<< (yv.toInt64 &&& 63))) := by
        rw [own_addacc (own_ix hxv) (kw := (1 : Int32)) (by decide) (by decide)]
        show own_acc (XT.ushr xv (6 : Int32)) (1 : Int32) (j5) (((0 : Int64) ||| ((1 : Int64) <<< (xv.toInt64 &&& 63))) ||| ((1 : Int64) <<< (yv.toInt64 &&& 63))) = _
        try rw [← cq880]
        (try simp only [own_z]) <;> by_cases uxv : XT.ushr xv (6 : Int32) = (1 : Int32) <;> simp [own_acc, uxv, Int64.or_assoc, Int64.or_comm, own_orl]
      have e890 : (own_add (own_f j4 j5 (j4 ^^^ (-1 : Int64)) (j4 ^^^ j5)) (XT.ushr xv (6 : Int32)).toNatClampNeg (((0 : Int64) ||| ((1 : Int64) <<< (xv.toInt64 &&& 63))) ||| ((1 : Int64) <<< (yv.toInt64 &&& 63)))) 2 = (own_acc (XT.ushr yv (6 : Int32)) (2 : Int32) (own_acc (XT.ushr xv (6 : Int32)) (2 : Int32) (j4 ^^^ (-1 : Int64)) ((1 : Int64) <<< (xv.toInt64 &&& 63))) ((1 : Int64) <<< (yv.toInt64 &&& 63))) := by
        rw [own_addacc (own_ix hxv) (kw := (2 : Int32)) (by decide) (by decide)]
        show own_acc (XT.ushr xv (6 : Int32)) (2 : Int32) ((j4 ^^^ (-1 : Int64))) (((0 : Int64) ||| ((1 : Int64) <<< (xv.toInt64 &&& 63))) ||| ((1 : Int64) <<< (yv.toInt64 &&& 63))) = _
        try rw [← cq880]
        (try simp only [own_z]) <;> by_cases uxv : XT.ushr xv (6 : Int32) = (2 : Int32) <;> simp [own_acc, uxv, Int64.or_assoc, Int64.or_comm, own_orl]
      have e891 : (own_add (own_f j4 j5 (j4 ^^^ (-1 : Int64)) (j4 ^^^ j5)) (XT.ushr xv (6 : Int32)).toNatClampNeg (((0 : Int64) ||| ((1 : Int64) <<< (xv.toInt64 &&& 63))) ||| ((1 : Int64) <<< (yv.toInt64 &&& 63)))) 3 = (own_acc (XT.ushr yv (6 : Int32)) (3 : Int32) (own_acc (XT.ushr xv (6 : Int32)) (3 : Int32) (j4 ^^^ j5) ((1 : Int64) <<< (xv.toInt64 &&& 63))) ((1 : Int64) <<< (yv.toInt64 &&& 63))) := by
        rw [own_addacc (own_ix hxv) (kw := (3 : Int32)) (by decide) (by decide)]
        show own_acc (XT.ushr xv (6 : Int32)) (3 : Int32) ((j4 ^^^ j5)) (((0 : Int64) ||| ((1 : Int64) <<< (xv.toInt64 &&& 63))) ||| ((1 : Int64) <<< (yv.toInt64 &&& 63))) = _
        try rw [← cq880]
        (try simp only [own_z]) <;> by_cases uxv : XT.ushr xv (6 : Int32) = (3 : Int32) <;> simp [own_acc, uxv, Int64.or_assoc, Int64.or_comm, own_orl]
      have F892 := (Exa.keep F879 K880)
      exact J2_1_0 _ _ _ bi873 bw873 k1873 k2873 (XT.ushr xv (6 : Int32)) (((0 : Int64) ||| ((1 : Int64) <<< (xv.toInt64 &&& 63))) ||| ((1 : Int64) <<< (yv.toInt64 &&& 63))) (X880.more (by decide) (by decide)) e880 O887 N880a F892 Q880_0 Q880_1 Q880_2 Q880_3 Q880_4 Q880_5 f875 f877 n874 n876 nn873 (own_ix hxv) e888 e889 e890 e891
    · have N880a := Fr.app N873a N880
      have O893 : Ext Z.heap h880 := xk O878 K880 (allS f802 (allS f875 (allS f877 all0)))
      show Ends p e below s _ _ _ T880 (mkF m 61 #[iv i0, iv i1, iv i2, iv i3, .val (.long j4), .second, .val (.long j5), .second, iv (2 : Int32), iv xv, iv yv, iv zv, rv a802, .unset, .unset, .unset, .unset, .unset, .unset, .unset, .unset, .unset] [])
      refine go (fun _ => XS.iload X880.here hx rfl (hb hby at_61) rfl) ?_
      refine go (fun _ => XT.iconstV X880.here hx rfl (3 : Int32) (hb hby at_63) (by decide)) ?_
      show Ends p e below s _ _ _ T880 (mkF m 64 #[iv i0, iv i1, iv i2, iv i3, .val (.long j4), .second, .val (.long j5), .second, iv (2 : Int32), iv xv, iv yv, iv zv, rv a802, .unset, .unset, .unset, .unset, .unset, .unset, .unset, .unset, .unset] [(.int (3 : Int32)), (.int (2 : Int32))])
      refine go (fun _ => XS.icmpYes X880.here hx rfl (pc0 := 64) (pc' := 74) rfl (hb hby at_64) rfl (XT.ii_lt_t ((by decide) : (2 : Int32) < (3 : Int32))) (by decide) (by decide)) ?_
      show Ends p e below s _ _ _ T880 (mkF m 74 #[iv i0, iv i1, iv i2, iv i3, .val (.long j4), .second, .val (.long j5), .second, iv (2 : Int32), iv xv, iv yv, iv zv, rv a802, .unset, .unset, .unset, .unset, .unset, .unset, .unset, .unset, .unset] [])
      have e894 : (own_add (own_add (own_f j4 j5 (j4 ^^^ (-1 : Int64)) (j4 ^^^ j5)) (XT.ushr xv (6 : Int32)).toNatClampNeg ((0 : Int64) ||| ((1 : Int64) <<< (xv.toInt64 &&& 63)))) (XT.ushr yv (6 : Int32)).toNatClampNeg ((0 : Int64) ||| ((1 : Int64) <<< (yv.toInt64 &&& 63)))) 0 = (own_acc (XT.ushr yv (6 : Int32)) (0 : Int32) (own_acc (XT.ushr xv (6 : Int32)) (0 : Int32) j4 ((1 : Int64) <<< (xv.toInt64 &&& 63))) ((1 : Int64) <<< (yv.toInt64 &&& 63))) := by
        rw [own_addacc (own_ix hyv) (kw := (0 : Int32)) (by decide) (by decide), own_addacc (own_ix hxv) (kw := (0 : Int32)) (by decide) (by decide)]
        show own_acc (XT.ushr yv (6 : Int32)) (0 : Int32) (own_acc (XT.ushr xv (6 : Int32)) (0 : Int32) (j4) ((0 : Int64) ||| ((1 : Int64) <<< (xv.toInt64 &&& 63)))) ((0 : Int64) ||| ((1 : Int64) <<< (yv.toInt64 &&& 63))) = _
        (try simp only [own_z]) <;> by_cases uxv : XT.ushr xv (6 : Int32) = (0 : Int32) <;> by_cases uyv : XT.ushr yv (6 : Int32) = (0 : Int32) <;> simp [own_acc, uxv, uyv, Int64.or_assoc, Int64.or_comm, own_orl]
      have e895 : (own_add (own_add (own_f j4 j5 (j4 ^^^ (-1 : Int64)) (j4 ^^^ j5)) (XT.ushr xv (6 : Int32)).toNatClampNeg ((0 : Int64) ||| ((1 : Int64) <<< (xv.toInt64 &&& 63)))) (XT.ushr yv (6 : Int32)).toNatClampNeg ((0 : Int64) ||| ((1 : Int64) <<< (yv.toInt64 &&& 63)))) 1 = (own_acc (XT.ushr yv (6 : Int32)) (1 : Int32) (own_acc (XT.ushr xv (6 : Int32)) (1 : Int32) j5 ((1 : Int64) <<< (xv.toInt64 &&& 63))) ((1 : Int64) <<< (yv.toInt64 &&& 63))) := by
        rw [own_addacc (own_ix hyv) (kw := (1 : Int32)) (by decide) (by decide), own_addacc (own_ix hxv) (kw := (1 : Int32)) (by decide) (by decide)]
        show own_acc (XT.ushr yv (6 : Int32)) (1 : Int32) (own_acc (XT.ushr xv (6 : Int32)) (1 : Int32) (j5) ((0 : Int64) ||| ((1 : Int64) <<< (xv.toInt64 &&& 63)))) ((0 : Int64) ||| ((1 : Int64) <<< (yv.toInt64 &&& 63))) = _
        (try simp only [own_z]) <;> by_cases uxv : XT.ushr xv (6 : Int32) = (1 : Int32) <;> by_cases uyv : XT.ushr yv (6 : Int32) = (1 : Int32) <;> simp [own_acc, uxv, uyv, Int64.or_assoc, Int64.or_comm, own_orl]
      have e896 : (own_add (own_add (own_f j4 j5 (j4 ^^^ (-1 : Int64)) (j4 ^^^ j5)) (XT.ushr xv (6 : Int32)).toNatClampNeg ((0 : Int64) ||| ((1 : Int64) <<< (xv.toInt64 &&& 63)))) (XT.ushr yv (6 : Int32)).toNatClampNeg ((0 : Int64) ||| ((1 : Int64) <<< (yv.toInt64 &&& 63)))) 2 = (own_acc (XT.ushr yv (6 : Int32)) (2 : Int32) (own_acc (XT.ushr xv (6 : Int32)) (2 : Int32) (j4 ^^^ (-1 : Int64)) ((1 : Int64) <<< (xv.toInt64 &&& 63))) ((1 : Int64) <<< (yv.toInt64 &&& 63))) := by
        rw [own_addacc (own_ix hyv) (kw := (2 : Int32)) (by decide) (by decide), own_addacc (own_ix hxv) (kw := (2 : Int32)) (by decide) (by decide)]
        show own_acc (XT.ushr yv (6 : Int32)) (2 : Int32) (own_acc (XT.ushr xv (6 : Int32)) (2 : Int32) ((j4 ^^^ (-1 : Int64))) ((0 : Int64) ||| ((1 : Int64) <<< (xv.toInt64 &&& 63)))) ((0 : Int64) ||| ((1 : Int64) <<< (yv.toInt64 &&& 63))) = _
        (try simp only [own_z]) <;> by_cases uxv : XT.ushr xv (6 : Int32) = (2 : Int32) <;> by_cases uyv : XT.ushr yv (6 : Int32) = (2 : Int32) <;> simp [own_acc, uxv, uyv, Int64.or_assoc, Int64.or_comm, own_orl]
      have e897 : (own_add (own_add (own_f j4 j5 (j4 ^^^ (-1 : Int64)) (j4 ^^^ j5)) (XT.ushr xv (6 : Int32)).toNatClampNeg ((0 : Int64) ||| ((1 : Int64) <<< (xv.toInt64 &&& 63)))) (XT.ushr yv (6 : Int32)).toNatClampNeg ((0 : Int64) ||| ((1 : Int64) <<< (yv.toInt64 &&& 63)))) 3 = (own_acc (XT.ushr yv (6 : Int32)) (3 : Int32) (own_acc (XT.ushr xv (6 : Int32)) (3 : Int32) (j4 ^^^ j5) ((1 : Int64) <<< (xv.toInt64 &&& 63))) ((1 : Int64) <<< (yv.toInt64 &&& 63))) := by
        rw [own_addacc (own_ix hyv) (kw := (3 : Int32)) (by decide) (by decide), own_addacc (own_ix hxv) (kw := (3 : Int32)) (by decide) (by decide)]
        show own_acc (XT.ushr yv (6 : Int32)) (3 : Int32) (own_acc (XT.ushr xv (6 : Int32)) (3 : Int32) ((j4 ^^^ j5)) ((0 : Int64) ||| ((1 : Int64) <<< (xv.toInt64 &&& 63)))) ((0 : Int64) ||| ((1 : Int64) <<< (yv.toInt64 &&& 63))) = _
        (try simp only [own_z]) <;> by_cases uxv : XT.ushr xv (6 : Int32) = (3 : Int32) <;> by_cases uyv : XT.ushr yv (6 : Int32) = (3 : Int32) <;> simp [own_acc, uxv, uyv, Int64.or_assoc, Int64.or_comm, own_orl]
      have F898 := (Exa.keep F879 K880)
      exact J2_2_0 _ _ _ bi873 bw873 k1873 k2873 (XT.ushr xv (6 : Int32)) (XT.ushr yv (6 : Int32)) ((0 : Int64) ||| ((1 : Int64) <<< (xv.toInt64 &&& 63))) ((0 : Int64) ||| ((1 : Int64) <<< (yv.toInt64 &&& 63))) (X880.more (by decide) (by decide)) e880 O893 N880a F898 Q880_0 Q880_1 Q880_2 Q880_3 Q880_4 Q880_5 f875 f877 n874 n876 nn873 (own_ix hxv) (own_ix hyv) e894 e895 e896 e897
  · rw [q]
    show Ends p e below s _ _ _ T0 (mkF m 3 #[iv i0, iv i1, iv i2, iv i3, .val (.long j4), .second, .val (.long j5), .second, .unset, .unset, .unset, .unset, .unset, .unset, .unset, .unset, .unset, .unset, .unset, .unset, .unset, .unset] [(.int (3 : Int32))])
    refine go (fun _ => XS.istore X0.here hx rfl (hb hby at_3) rfl (l' := #[iv i0, iv i1, iv i2, iv i3, .val (.long j4), .second, .val (.long j5), .second, iv (3 : Int32), .unset, .unset, .unset, .unset, .unset, .unset, .unset, .unset, .unset, .unset, .unset, .unset, .unset]) rfl) ?_
    refine go (fun _ => XS.iloadN X0.here hx rfl (hb hby at_5) rfl) ?_
    refine go (fun _ => XT.sipushV X0.here hx rfl (255 : Int32) (hb hby at_6) (by decide)) ?_
    refine go (fun _ => XS.iand X0.here hx rfl (hb hby at_9) rfl) ?_
    show Ends p e below s _ _ _ T0 (mkF m 10 #[iv i0, iv i1, iv i2, iv i3, .val (.long j4), .second, .val (.long j5), .second, iv (3 : Int32), .unset, .unset, .unset, .unset, .unset, .unset, .unset, .unset, .unset, .unset, .unset, .unset, .unset] [(.int (i0 &&& (255 : Int32)))])
    obtain ⟨xv, hxv⟩ : ∃ z : Int32, z = (i0 &&& (255 : Int32)) := ⟨_, rfl⟩
    rw [← hxv]
    show Ends p e below s _ _ _ T0 (mkF m 10 #[iv i0, iv i1, iv i2, iv i3, .val (.long j4), .second, .val (.long j5), .second, iv (3 : Int32), .unset, .unset, .unset, .unset, .unset, .unset, .unset, .unset, .unset, .unset, .unset, .unset, .unset] [(.int xv)])
    refine go (fun _ => XS.istore X0.here hx rfl (hb hby at_10) rfl (l' := #[iv i0, iv i1, iv i2, iv i3, .val (.long j4), .second, .val (.long j5), .second, iv (3 : Int32), iv xv, .unset, .unset, .unset, .unset, .unset, .unset, .unset, .unset, .unset, .unset, .unset, .unset]) rfl) ?_
    refine go (fun _ => XS.iloadN X0.here hx rfl (hb hby at_12) rfl) ?_
    refine go (fun _ => XT.sipushV X0.here hx rfl (255 : Int32) (hb hby at_13) (by decide)) ?_
    refine go (fun _ => XS.iand X0.here hx rfl (hb hby at_16) rfl) ?_
    show Ends p e below s _ _ _ T0 (mkF m 17 #[iv i0, iv i1, iv i2, iv i3, .val (.long j4), .second, .val (.long j5), .second, iv (3 : Int32), iv xv, .unset, .unset, .unset, .unset, .unset, .unset, .unset, .unset, .unset, .unset, .unset, .unset] [(.int (i1 &&& (255 : Int32)))])
    obtain ⟨yv, hyv⟩ : ∃ z : Int32, z = (i1 &&& (255 : Int32)) := ⟨_, rfl⟩
    rw [← hyv]
    show Ends p e below s _ _ _ T0 (mkF m 17 #[iv i0, iv i1, iv i2, iv i3, .val (.long j4), .second, .val (.long j5), .second, iv (3 : Int32), iv xv, .unset, .unset, .unset, .unset, .unset, .unset, .unset, .unset, .unset, .unset, .unset, .unset] [(.int yv)])
    refine go (fun _ => XS.istore X0.here hx rfl (hb hby at_17) rfl (l' := #[iv i0, iv i1, iv i2, iv i3, .val (.long j4), .second, .val (.long j5), .second, iv (3 : Int32), iv xv, iv yv, .unset, .unset, .unset, .unset, .unset, .unset, .unset, .unset, .unset, .unset, .unset]) rfl) ?_
    refine go (fun _ => XS.iloadN X0.here hx rfl (hb hby at_19) rfl) ?_
    refine go (fun _ => XT.sipushV X0.here hx rfl (255 : Int32) (hb hby at_20) (by decide)) ?_
    refine go (fun _ => XS.iand X0.here hx rfl (hb hby at_23) rfl) ?_
    show Ends p e below s _ _ _ T0 (mkF m 24 #[iv i0, iv i1, iv i2, iv i3, .val (.long j4), .second, .val (.long j5), .second, iv (3 : Int32), iv xv, iv yv, .unset, .unset, .unset, .unset, .unset, .unset, .unset, .unset, .unset, .unset, .unset] [(.int (i2 &&& (255 : Int32)))])
    obtain ⟨zv, hzv⟩ : ∃ z : Int32, z = (i2 &&& (255 : Int32)) := ⟨_, rfl⟩
    rw [← hzv]
    show Ends p e below s _ _ _ T0 (mkF m 24 #[iv i0, iv i1, iv i2, iv i3, .val (.long j4), .second, .val (.long j5), .second, iv (3 : Int32), iv xv, iv yv, .unset, .unset, .unset, .unset, .unset, .unset, .unset, .unset, .unset, .unset, .unset] [(.int zv)])
    refine go (fun _ => XS.istore X0.here hx rfl (hb hby at_24) rfl (l' := #[iv i0, iv i1, iv i2, iv i3, .val (.long j4), .second, .val (.long j5), .second, iv (3 : Int32), iv xv, iv yv, iv zv, .unset, .unset, .unset, .unset, .unset, .unset, .unset, .unset, .unset, .unset]) rfl) ?_
    show Ends p e below s _ _ _ T0 (mkF m 26 #[iv i0, iv i1, iv i2, iv i3, .val (.long j4), .second, .val (.long j5), .second, iv (3 : Int32), iv xv, iv yv, iv zv, .unset, .unset, .unset, .unset, .unset, .unset, .unset, .unset, .unset, .unset] [])
    obtain ⟨T899, h899, X899, e899, E899, A899, D899, U899, s899⟩ := newO X0 hx hZ hown (hwi hw 0 rfl) (hwi hw 1 rfl) (hwi hw 2 rfl) e0 (g := (mkF m 26 #[iv i0, iv i1, iv i2, iv i3, .val (.long j4), .second, .val (.long j5), .second, iv (3 : Int32), iv xv, iv yv, iv zv, .unset, .unset, .unset, .unset, .unset, .unset, .unset, .unset, .unset, .unset] [])) rfl (hb hby at_26) (by decide) (by decide)
    obtain ⟨a899, g899⟩ : ∃ z : Addr, z = h0.size := ⟨_, rfl⟩
    have f899 : Z.heap.size ≤ a899 := by rw [g899]; exact (O0).1
    rw [← g899] at A899 D899 U899 s899
    have O900 : Ext Z.heap h899 := xx O0 E899
    refine go s899 ?_
    show Ends p e below s _ _ _ T899 (mkF m 29 #[iv i0, iv i1, iv i2, iv i3, .val (.long j4), .second, .val (.long j5), .second, iv (3 : Int32), iv xv, iv yv, iv zv, .unset, .unset, .unset, .unset, .unset, .unset, .unset, .unset, .unset, .unset] [(.ref a899)])
    refine go (fun _ => XS.dup X899.here hx rfl (hb hby at_29) rfl rfl) ?_
    show Ends p e below s _ _ _ T899 (mkF m 30 #[iv i0, iv i1, iv i2, iv i3, .val (.long j4), .second, .val (.long j5), .second, iv (3 : Int32), iv xv, iv yv, iv zv, .unset, .unset, .unset, .unset, .unset, .unset, .unset, .unset, .unset, .unset] [(.ref a899), (.ref a899)])
    have F901 := (D899 (Or.inl (hwi hw 12 rfl)) (ty := (.array .int)) (by decide))
    have F902 := (D899 (Or.inl (hwi hw 16 rfl)) (ty := (.array .long)) (by decide))
    have F903 := (D899 (Or.inl (hwi hw 29 rfl)) (ty := .int) (by decide))
    have F904 := (D899 (Or.inl (hwi hw 27 rfl)) (ty := .int) (by decide))
    refine cInit X899 hx hZ hown (by rw [hml]; rfl) e899 (hwi hw 3 rfl) (hwi hw 4 rfl) (hwi hw 2 rfl) (hwi hw 5 rfl) a899 [] [(.ref a899)] rfl (rm_sbinit hw a899 aI aW _ O900 f899 A899 F901 F902 F903 F904 ft_2 ft_7) (hb hby at_30) rfl (lenOf pd_11 rfl) rfl (by decide) (by decide) (Nat.le_of_ble_eq_true rfl) (by decide) (by decide) ?_
    rintro v905 T905 h905 L905 X905 e905 ⟨rfl, N905, K905, Q905_0, Q905_1, Q905_2, Q905_3⟩
    have N905a := Fr.app (Fr.nil _) N905
    have O906 : Ext Z.heap h905 := xk O900 K905 (allS f899 all0)
    show Ends p e below s _ _ _ T905 (mkF m 33 #[iv i0, iv i1, iv i2, iv i3, .val (.long j4), .second, .val (.long j5), .second, iv (3 : Int32), iv xv, iv yv, iv zv, .unset, .unset, .unset, .unset, .unset, .unset, .unset, .unset, .unset, .unset] [(.ref a899)])
    refine go (fun _ => XS.astore X905.here hx rfl (hb hby at_33) rfl rfl (l' := #[iv i0, iv i1, iv i2, iv i3, .val (.long j4), .second, .val (.long j5), .second, iv (3 : Int32), iv xv, iv yv, iv zv, rv a899, .unset, .unset, .unset, .unset, .unset, .unset, .unset, .unset, .unset]) rfl) ?_
    show Ends p e below s _ _ _ T905 (mkF m 35 #[iv i0, iv i1, iv i2, iv i3, .val (.long j4), .second, .val (.long j5), .second, iv (3 : Int32), iv xv, iv yv, iv zv, rv a899, .unset, .unset, .unset, .unset, .unset, .unset, .unset, .unset, .unset] [])
    have J3_1_0 : ∀ (TJ : State) (hJ : Heap) (LJ : List Loc) (aiJ awJ : Addr) (kiJ kwJ : ClassId) (ij0 : Int32) (wj0 : Int64) (XJ : Stand p l e room_1 s m #[(.int i0), (.int i1), (.int i2), (.int i3), (.long j4), (.long j5)] below meth c TJ LJ 8 64) (eJ : TJ.heap = hJ) (OJ : Ext Z.heap hJ) (NJ : Fr Z.heap.size LJ) (EJ : Exa Z hJ a899 "com/example/libtbox/libtbox/core/SparseBitSet") (PJ0 : Fld Z hJ a899 "com/example/libtbox/libtbox/core/SparseBitSet" "indices" "[I" (.ref aiJ)) (PJ1 : Fld Z hJ a899 "com/example/libtbox/libtbox/core/SparseBitSet" "words" "[J" (.ref awJ)) (PJ2 : Fld Z hJ a899 "com/example/libtbox/libtbox/core/SparseBitSet" "count" "I" (.int (1 : Int32))) (PJ3 : Fld Z hJ a899 "com/example/libtbox/libtbox/core/SparseBitSet" "lastFound" "I" (.int (0 : Int32))) (PJ4 : Arv Z hJ aiJ kiJ .int (2 : Int32) [(.int ij0), (.int (0 : Int32))] (.int 0)) (PJ5 : Arv Z hJ awJ kwJ .long (2 : Int32) [(.long wj0), (.long (0 : Int64))] (.long 0)) (fiJ : Z.heap.size ≤ aiJ) (fwJ : Z.heap.size ≤ awJ) (n1J : a899 ≠ aiJ) (n2J : a899 ≠ awJ) (n3J : aiJ ≠ awJ) (gj0 : ¬ ij0 < 0 ∧ ij0 < 4) (qj0 : ((own_add (own_f j4 j5 (j4 ^^^ (-1 : Int64)) (j4 ^^^ j5)) ij0.toNatClampNeg wj0) 0) = (own_acc (XT.ushr zv (6 : Int32)) (0 : Int32) (own_acc (XT.ushr yv (6 : Int32)) (0 : Int32) (own_acc (XT.ushr xv (6 : Int32)) (0 : Int32) j4 ((1 : Int64) <<< (xv.toInt64 &&& 63))) ((1 : Int64) <<< (yv.toInt64 &&& 63))) ((1 : Int64) <<< (zv.toInt64 &&& 63)))) (qj1 : ((own_add (own_f j4 j5 (j4 ^^^ (-1 : Int64)) (j4 ^^^ j5)) ij0.toNatClampNeg wj0) 1) = (own_acc (XT.ushr zv (6 : Int32)) (1 : Int32) (own_acc (XT.ushr yv (6 : Int32)) (1 : Int32) (own_acc (XT.ushr xv (6 : Int32)) (1 : Int32) j5 ((1 : Int64) <<< (xv.toInt64 &&& 63))) ((1 : Int64) <<< (yv.toInt64 &&& 63))) ((1 : Int64) <<< (zv.toInt64 &&& 63)))) (qj2 : ((own_add (own_f j4 j5 (j4 ^^^ (-1 : Int64)) (j4 ^^^ j5)) ij0.toNatClampNeg wj0) 2) = (own_acc (XT.ushr zv (6 : Int32)) (2 : Int32) (own_acc (XT.ushr yv (6 : Int32)) (2 : Int32) (own_acc (XT.ushr xv (6 : Int32)) (2 : Int32) (j4 ^^^ (-1 : Int64)) ((1 : Int64) <<< (xv.toInt64 &&& 63))) ((1 : Int64) <<< (yv.toInt64 &&& 63))) ((1 : Int64) <<< (zv.toInt64 &&& 63)))) (qj3 : ((own_add (own_f j4 j5 (j4 ^^^ (-1 : Int64)) (j4 ^^^ j5)) ij0.toNatClampNeg wj0) 3) = (own_acc (XT.ushr zv (6 : Int32)) (3 : Int32) (own_acc (XT.ushr yv (6 : Int32)) (3 : Int32) (own_acc (XT.ushr xv (6 : Int32)) (3 : Int32) (j4 ^^^ j5) ((1 : Int64) <<< (xv.toInt64 &&& 63))) ((1 : Int64) <<< (yv.toInt64 &&& 63))) ((1 : Int64) <<< (zv.toInt64 &&& 63)))), Ends p e below s (fun v h L => v = some (.int 1) ∧ Fr Z.heap.size L) room_1.cells room_1.slots TJ (mkF m 74 #[iv i0, iv i1, iv i2, iv i3, .val (.long j4), .second, .val (.long j5), .second, iv (3 : Int32), iv xv, iv yv, iv zv, rv a899, .unset, .unset, .unset, .unset, .unset, .unset, .unset, .unset, .unset] []) := by
      intro TJ hJ LJ aiJ awJ kiJ kwJ ij0 wj0 XJ eJ OJ NJ EJ PJ0 PJ1 PJ2 PJ3 PJ4 PJ5 fiJ fwJ n1J n2J n3J gj0 qj0 qj1 qj2 qj3
      refine go (fun _ => XT.lload XJ.here hx rfl (hb hby at_74) rfl) ?_
      refine go (fun _ => XT.lstore XJ.here hx rfl (hb hby at_76) rfl (l' := #[iv i0, iv i1, iv i2, iv i3, .val (.long j4), .second, .val (.long j5), .second, iv (3 : Int32), iv xv, iv yv, iv zv, rv a899, .val (.long j4), .second, .unset, .unset, .unset, .unset, .unset, .unset, .unset]) rfl) ?_
      refine go (fun _ => XT.lload XJ.here hx rfl (hb hby at_78) rfl) ?_
      refine go (fun _ => XT.lstore XJ.here hx rfl (hb hby at_80) rfl (l' := #[iv i0, iv i1, iv i2, iv i3, .val (.long j4), .second, .val (.long j5), .second, iv (3 : Int32), iv xv, iv yv, iv zv, rv a899, .val (.long j4), .second, .val (.long j5), .second, .unset, .unset, .unset, .unset, .unset]) rfl) ?_
      refine go (fun _ => XT.lload XJ.here hx rfl (hb hby at_82) rfl) ?_
      show Ends p e below s _ _ _ TJ (mkF m 84 #[iv i0, iv i1, iv i2, iv i3, .val (.long j4), .second, .val (.long j5), .second, iv (3 : Int32), iv xv, iv yv, iv zv, rv a899, .val (.long j4), .second, .val (.long j5), .second, .unset, .unset, .unset, .unset, .unset] [(.long j4)])
      refine go (fun _ => Jvm.Stand.ldc2J XJ hx hown (mvT hZ (hwi hw 59 rfl)) rfl (hb hby at_84)) ?_
      show Ends p e below s _ _ _ TJ (mkF m 87 #[iv i0, iv i1, iv i2, iv i3, .val (.long j4), .second, .val (.long j5), .second, iv (3 : Int32), iv xv, iv yv, iv zv, rv a899, .val (.long j4), .second, .val (.long j5), .second, .unset, .unset, .unset, .unset, .unset] [(.long (-1 : Int64)), (.long j4)])
      refine go (fun _ => XT.lxor XJ.here hx rfl (hb hby at_87) rfl) ?_
      refine go (fun _ => XT.lstore XJ.here hx rfl (hb hby at_88) rfl (l' := #[iv i0, iv i1, iv i2, iv i3, .val (.long j4), .second, .val (.long j5), .second, iv (3 : Int32), iv xv, iv yv, iv zv, rv a899, .val (.long j4), .second, .val (.long j5), .second, .val (.long (j4 ^^^ (-1 : Int64))), .second, .unset, .unset, .unset]) rfl) ?_
      refine go (fun _ => XT.lload XJ.here hx rfl (hb hby at_90) rfl) ?_
      refine go (fun _ => XT.lload XJ.here hx rfl (hb hby at_92) rfl) ?_
      refine go (fun _ => XT.lxor XJ.here hx rfl (hb hby at_94) rfl) ?_
      refine go (fun _ => XT.lstore XJ.here hx rfl (hb hby at_95) rfl (l' := #[iv i0, iv i1, iv i2, iv i3, .val (.long j4), .second, .val (.long j5), .second, iv (3 : Int32), iv xv, iv yv, iv zv, rv a899, .val (.long j4), .second, .val (.long j5), .second, .val (.long (j4 ^^^ (-1 : Int64))), .second, .val (.long (j4 ^^^ j5)), .second, .unset]) rfl) ?_
      show Ends p e below s _ _ _ TJ (mkF m 97 #[iv i0, iv i1, iv i2, iv i3, .val (.long j4), .second, .val (.long j5), .second, iv (3 : Int32), iv xv, iv yv, iv zv, rv a899, .val (.long j4), .second, .val (.long j5), .second, .val (.long (j4 ^^^ (-1 : Int64))), .second, .val (.long (j4 ^^^ j5)), .second, .unset] [])
      refine go (fun _ => XT.iconstV XJ.here hx rfl (4 : Int32) (hb hby at_97) (by decide)) ?_
      show Ends p e below s _ _ _ TJ (mkF m 98 #[iv i0, iv i1, iv i2, iv i3, .val (.long j4), .second, .val (.long j5), .second, iv (3 : Int32), iv xv, iv yv, iv zv, rv a899, .val (.long j4), .second, .val (.long j5), .second, .val (.long (j4 ^^^ (-1 : Int64))), .second, .val (.long (j4 ^^^ j5)), .second, .unset] [(.int (4 : Int32))])
      obtain ⟨T907, h907, k907, X907, e907, E907, A907, s907⟩ := newP XJ hx hZ (hwi hw 57 rfl) eJ (g := (mkF m 98 #[iv i0, iv i1, iv i2, iv i3, .val (.long j4), .second, .val (.long j5), .second, iv (3 : Int32), iv xv, iv yv, iv zv, rv a899, .val (.long j4), .second, .val (.long j5), .second, .val (.long (j4 ^^^ (-1 : Int64))), .second, .val (.long (j4 ^^^ j5)), .second, .unset] [(.int (4 : Int32))])) rfl (hb hby at_98) rfl (by decide) (cap := 4) (by decide) (by decide) (by decide) (by decide)
      obtain ⟨a907, g907⟩ : ∃ z : Addr, z = hJ.size := ⟨_, rfl⟩
      have n908 : a899 ≠ a907 := fun q => absurd (EJ.lt) (by rw [q, g907]; exact Nat.lt_irrefl _)
      have n909 : aiJ ≠ a907 := fun q => absurd (PJ4.lt) (by rw [q, g907]; exact Nat.lt_irrefl _)
      have n910 : awJ ≠ a907 := fun q => absurd (PJ5.lt) (by rw [q, g907]; exact Nat.lt_irrefl _)
      have f907 : Z.heap.size ≤ a907 := by rw [g907]; exact (OJ).1
      rw [← g907] at A907 s907
      have O911 : Ext Z.heap h907 := xx OJ E907
      have V907 : Arv Z h907 a907 k907 .long (4 : Int32) [(.long (0 : Int64)), (.long (0 : Int64)), (.long (0 : Int64)), (.long (0 : Int64))] (.long 0) := Arv.pad (Arv.new A907 (by decide)) (pad_rep [] _ 4)
      refine go s907 ?_
      show Ends p e below s _ _ _ T907 (mkF m 100 #[iv i0, iv i1, iv i2, iv i3, .val (.long j4), .second, .val (.long j5), .second, iv (3 : Int32), iv xv, iv yv, iv zv, rv a899, .val (.long j4), .second, .val (.long j5), .second, .val (.long (j4 ^^^ (-1 : Int64))), .second, .val (.long (j4 ^^^ j5)), .second, .unset] [(.ref a907)])
      refine go (fun _ => XS.dup X907.here hx rfl (hb hby at_100) rfl rfl) ?_
      refine go (fun _ => XT.iconstV X907.here hx rfl (0 : Int32) (hb hby at_101) (by decide)) ?_
      refine go (fun _ => XT.lload X907.here hx rfl (hb hby at_102) rfl) ?_
      show Ends p e below s _ _ _ T907 (mkF m 104 #[iv i0, iv i1, iv i2, iv i3, .val (.long j4), .second, .val (.long j5), .second, iv (3 : Int32), iv xv, iv yv, iv zv, rv a899, .val (.long j4), .second, .val (.long j5), .second, .val (.long (j4 ^^^ (-1 : Int64))), .second, .val (.long (j4 ^^^ j5)), .second, .unset] [(.long j4), (.int (0 : Int32)), (.ref a907), (.ref a907)])
      obtain ⟨cl912, A912, q912, S912, M912, H912, G912⟩ := id V907
      obtain ⟨T912, h912, X912, e912, W912, s912⟩ := stJ X907 hx hZ e907 A912 (j := (0 : Int32)) (inb_of S912 (by decide)) (g := (mkF m 104 #[iv i0, iv i1, iv i2, iv i3, .val (.long j4), .second, .val (.long j5), .second, iv (3 : Int32), iv xv, iv yv, iv zv, rv a899, .val (.long j4), .second, .val (.long j5), .second, .val (.long (j4 ^^^ (-1 : Int64))), .second, .val (.long (j4 ^^^ j5)), .second, .unset] [(.long j4), (.int (0 : Int32)), (.ref a907), (.ref a907)])) rfl rfl (hb hby at_104)
      have N912 := Fr.snoc X912 NJ f907
      have O913 : Ext Z.heap h912 := xw O911 W912 f907
      have V912 : Arv Z h912 a907 k907 .long (4 : Int32) [(.long j4), (.long (0 : Int64)), (.long (0 : Int64)), (.long (0 : Int64))] (.long 0) := Arv.set A912 q912 S912 M912 H912 G912 rfl W912 0 (by decide) (Nat.le_of_ble_eq_true rfl)
      refine go s912 ?_
      show Ends p e below s _ _ _ T912 (mkF m 105 #[iv i0, iv i1, iv i2, iv i3, .val (.long j4), .second, .val (.long j5), .second, iv (3 : Int32), iv xv, iv yv, iv zv, rv a899, .val (.long j4), .second, .val (.long j5), .second, .val (.long (j4 ^^^ (-1 : Int64))), .second, .val (.long (j4 ^^^ j5)), .second, .unset] [(.ref a907)])
      refine go (fun _ => XS.dup X912.here hx rfl (hb hby at_105) rfl rfl) ?_
      refine go (fun _ => XT.iconstV X912.here hx rfl (1 : Int32) (hb hby at_106) (by decide)) ?_
      refine go (fun _ => XT.lload X912.here hx rfl (hb hby at_107) rfl) ?_
      show Ends p e below s _ _ _ T912 (mkF m 109 #[iv i0, iv i1, iv i2, iv i3, .val (.long j4), .second, .val (.long j5), .second, iv (3 : Int32), iv xv, iv yv, iv zv, rv a899, .val (.long j4), .second, .val (.long j5), .second, .val (.long (j4 ^^^ (-1 : Int64))), .second, .val (.long (j4 ^^^ j5)), .second, .unset] [(.long j5), (.int (1 : Int32)), (.ref a907), (.ref a907)])
      obtain ⟨cl914, A914, q914, S914, M914, H914, G914⟩ := id V912
      obtain ⟨T914, h914, X914, e914, W914, s914⟩ := stJ X912 hx hZ e912 A914 (j := (1 : Int32)) (inb_of S914 (by decide)) (g := (mkF m 109 #[iv i0, iv i1, iv i2, iv i3, .val (.long j4), .second, .val (.long j5), .second, iv (3 : Int32), iv xv, iv yv, iv zv, rv a899, .val (.long j4), .second, .val (.long j5), .second, .val (.long (j4 ^^^ (-1 : Int64))), .second, .val (.long (j4 ^^^ j5)), .second, .unset] [(.long j5), (.int (1 : Int32)), (.ref a907), (.ref a907)])) rfl rfl (hb hby at_109)
      have N914 := Fr.snoc X914 N912 f907
      have O915 : Ext Z.heap h914 := xw O913 W914 f907
      have V914 : Arv Z h914 a907 k907 .long (4 : Int32) [(.long j4), (.long j5), (.long (0 : Int64)), (.long (0 : Int64))] (.long 0) := Arv.set A914 q914 S914 M914 H914 G914 rfl W914 1 (by decide) (Nat.le_of_ble_eq_true rfl)
      refine go s914 ?_
      show Ends p e below s _ _ _ T914 (mkF m 110 #[iv i0, iv i1, iv i2, iv i3, .val (.long j4), .second, .val (.long j5), .second, iv (3 : Int32), iv xv, iv yv, iv zv, rv a899, .val (.long j4), .second, .val (.long j5), .second, .val (.long (j4 ^^^ (-1 : Int64))), .second, .val (.long (j4 ^^^ j5)), .second, .unset] [(.ref a907)])
      refine go (fun _ => XS.dup X914.here hx rfl (hb hby at_110) rfl rfl) ?_
      refine go (fun _ => XT.iconstV X914.here hx rfl (2 : Int32) (hb hby at_111) (by decide)) ?_
      refine go (fun _ => XT.lload X914.here hx rfl (hb hby at_112) rfl) ?_
      show Ends p e below s _ _ _ T914 (mkF m 114 #[iv i0, iv i1, iv i2, iv i3, .val (.long j4), .second, .val (.long j5), .second, iv (3 : Int32), iv xv, iv yv, iv zv, rv a899, .val (.long j4), .second, .val (.long j5), .second, .val (.long (j4 ^^^ (-1 : Int64))), .second, .val (.long (j4 ^^^ j5)), .second, .unset] [(.long (j4 ^^^ (-1 : Int64))), (.int (2 : Int32)), (.ref a907), (.ref a907)])
      obtain ⟨cl916, A916, q916, S916, M916, H916, G916⟩ := id V914
      obtain ⟨T916, h916, X916, e916, W916, s916⟩ := stJ X914 hx hZ e914 A916 (j := (2 : Int32)) (inb_of S916 (by decide)) (g := (mkF m 114 #[iv i0, iv i1, iv i2, iv i3, .val (.long j4), .second, .val (.long j5), .second, iv (3 : Int32), iv xv, iv yv, iv zv, rv a899, .val (.long j4), .second, .val (.long j5), .second, .val (.long (j4 ^^^ (-1 : Int64))), .second, .val (.long (j4 ^^^ j5)), .second, .unset] [(.long (j4 ^^^ (-1 : Int64))), (.int (2 : Int32)), (.ref a907), (.ref a907)])) rfl rfl (hb hby at_114)
      have N916 := Fr.snoc X916 N914 f907
      have O917 : Ext Z.heap h916 := xw O915 W916 f907
      have V916 : Arv Z h916 a907 k907 .long (4 : Int32) [(.long j4), (.long j5), (.long (j4 ^^^ (-1 : Int64))), (.long (0 : Int64))] (.long 0) := Arv.set A916 q916 S916 M916 H916 G916 rfl W916 2 (by decide) (Nat.le_of_ble_eq_true rfl)
      refine go s916 ?_
      show Ends p e below s _ _ _ T916 (mkF m 115 #[iv i0, iv i1, iv i2, iv i3, .val (.long j4), .second, .val (.long j5), .second, iv (3 : Int32), iv xv, iv yv, iv zv, rv a899, .val (.long j4), .second, .val (.long j5), .second, .val (.long (j4 ^^^ (-1 : Int64))), .second, .val (.long (j4 ^^^ j5)), .second, .unset] [(.ref a907)])
      refine go (fun _ => XS.dup X916.here hx rfl (hb hby at_115) rfl rfl) ?_
      refine go (fun _ => XT.iconstV X916.here hx rfl (3 : Int32) (hb hby at_116) (by decide)) ?_
      refine go (fun _ => XT.lload X916.here hx rfl (hb hby at_117) rfl) ?_
      show Ends p e below s _ _ _ T916 (mkF m 119 #[iv i0, iv i1, iv i2, iv i3, .val (.long j4), .second, .val (.long j5), .second, iv (3 : Int32), iv xv, iv yv, iv zv, rv a899, .val (.long j4), .second, .val (.long j5), .second, .val (.long (j4 ^^^ (-1 : Int64))), .second, .val (.long (j4 ^^^ j5)), .second, .unset] [(.long (j4 ^^^ j5)), (.int (3 : Int32)), (.ref a907), (.ref a907)])
      obtain ⟨cl918, A918, q918, S918, M918, H918, G918⟩ := id V916
      obtain ⟨T918, h918, X918, e918, W918, s918⟩ := stJ X916 hx hZ e916 A918 (j := (3 : Int32)) (inb_of S918 (by decide)) (g := (mkF m 119 #[iv i0, iv i1, iv i2, iv i3, .val (.long j4), .second, .val (.long j5), .second, iv (3 : Int32), iv xv, iv yv, iv zv, rv a899, .val (.long j4), .second, .val (.long j5), .second, .val (.long (j4 ^^^ (-1 : Int64))), .second, .val (.long (j4 ^^^ j5)), .second, .unset] [(.long (j4 ^^^ j5)), (.int (3 : Int32)), (.ref a907), (.ref a907)])) rfl rfl (hb hby at_119)
      have N918 := Fr.snoc X918 N916 f907
      have O919 : Ext Z.heap h918 := xw O917 W918 f907
      have V918 : Arv Z h918 a907 k907 .long (4 : Int32) [(.long j4), (.long j5), (.long (j4 ^^^ (-1 : Int64))), (.long (j4 ^^^ j5))] (.long 0) := Arv.set A918 q918 S918 M918 H918 G918 rfl W918 3 (by decide) (Nat.le_of_ble_eq_true rfl)
      refine go s918 ?_
      show Ends p e below s _ _ _ T918 (mkF m 120 #[iv i0, iv i1, iv i2, iv i3, .val (.long j4), .second, .val (.long j5), .second, iv (3 : Int32), iv xv, iv yv, iv zv, rv a899, .val (.long j4), .second, .val (.long j5), .second, .val (.long (j4 ^^^ (-1 : Int64))), .second, .val (.long (j4 ^^^ j5)), .second, .unset] [(.ref a907)])
      refine go (fun _ => XS.astore X918.here hx rfl (hb hby at_120) rfl rfl (l' := #[iv i0, iv i1, iv i2, iv i3, .val (.long j4), .second, .val (.long j5), .second, iv (3 : Int32), iv xv, iv yv, iv zv, rv a899, .val (.long j4), .second, .val (.long j5), .second, .val (.long (j4 ^^^ (-1 : Int64))), .second, .val (.long (j4 ^^^ j5)), .second, rv a907]) rfl) ?_
      refine go (fun _ => XS.aload X918.here hx rfl (hb hby at_122) rfl rfl) ?_
      refine go (fun _ => XS.aload X918.here hx rfl (hb hby at_124) rfl rfl) ?_
      show Ends p e below s _ _ _ T918 (mkF m 126 #[iv i0, iv i1, iv i2, iv i3, .val (.long j4), .second, .val (.long j5), .second, iv (3 : Int32), iv xv, iv yv, iv zv, rv a899, .val (.long j4), .second, .val (.long j5), .second, .val (.long (j4 ^^^ (-1 : Int64))), .second, .val (.long (j4 ^^^ j5)), .second, rv a907] [(.ref a907), (.ref a899)])
      have F920 := (Fld.other W918 (Fld.other W916 (Fld.other W914 (Fld.other W912 (Fld.ext E907 PJ0) (Or.inl n908)) (Or.inl n908)) (Or.inl n908)) (Or.inl n908))
      have F921 := (Fld.other W918 (Fld.other W916 (Fld.other W914 (Fld.other W912 (Fld.ext E907 PJ1) (Or.inl n908)) (Or.inl n908)) (Or.inl n908)) (Or.inl n908))
      have F922 := (Fld.other W918 (Fld.other W916 (Fld.other W914 (Fld.other W912 (Fld.ext E907 PJ2) (Or.inl n908)) (Or.inl n908)) (Or.inl n908)) (Or.inl n908))
      have F923 := (Fld.other W918 (Fld.other W916 (Fld.other W914 (Fld.other W912 (Fld.ext E907 PJ3) (Or.inl n908)) (Or.inl n908)) (Or.inl n908)) (Or.inl n908))
      have F924 := (Arv.other (Arv.other (Arv.other (Arv.other (Arv.ext PJ4 E907) W912 n909) W914 n909) W916 n909) W918 n909)
      have F925 := (Arv.other (Arv.other (Arv.other (Arv.other (Arv.ext PJ5 E907) W912 n910) W914 n910) W916 n910) W918 n910)
      have F926 := (Exa.wr W918 (Exa.wr W916 (Exa.wr W914 (Exa.wr W912 (Exa.ext E907 EJ)))))
      have VL927 : Arv Z h918 a907 k907 .long (4 : Int32) (own_b (own_f j4 j5 (j4 ^^^ (-1 : Int64)) (j4 ^^^ j5))) (.long 0) := V918
      refine cVirt X918 hx hZ hown (by rw [hml]; rfl) e918 (hwi hw 60 rfl) (hwi hw 61 rfl) (hwi hw 63 rfl) (hwi hw 62 rfl) (hwi hw 2 rfl) (hwi hw 64 rfl) (notFace_of_selects (args := #[]) (mvT hZ (hwi hw 63 rfl))) a899 F926 [(.ref a907)] [] rfl (rm_add1_0 hw a899 aiJ awJ kiJ kwJ ij0 wj0 a907 k907 (own_f j4 j5 (j4 ^^^ (-1 : Int64)) (j4 ^^^ j5)) _ O919 f899 F926 F920 F921 F922 F923 F924 F925 fiJ fwJ n1J n2J n3J VL927 f907 n908 n909 n910 gj0) (hb hby at_126) rfl (lenOf pd_12 rfl) (by decide) (by decide) (Nat.le_of_ble_eq_true rfl) (by decide) (by decide) ?_
      rintro v928 T928 h928 L928 X928 e928 ⟨rfl, N928, K928, V928⟩
      have N928a := Fr.app N918 N928
      have O929 : Ext Z.heap h928 := xk O919 K928 (allS f907 all0)
      show Ends p e below s _ _ _ T928 (mkF m 129 #[iv i0, iv i1, iv i2, iv i3, .val (.long j4), .second, .val (.long j5), .second, iv (3 : Int32), iv xv, iv yv, iv zv, rv a899, .val (.long j4), .second, .val (.long j5), .second, .val (.long (j4 ^^^ (-1 : Int64))), .second, .val (.long (j4 ^^^ j5)), .second, rv a907] [])
      refine go (fun _ => XS.aload X928.here hx rfl (hb hby at_129) rfl rfl) ?_
      refine go (fun _ => XT.iconstV X928.here hx rfl (0 : Int32) (hb hby at_131) (by decide)) ?_
      show Ends p e below s _ _ _ T928 (mkF m 132 #[iv i0, iv i1, iv i2, iv i3, .val (.long j4), .second, .val (.long j5), .second, iv (3 : Int32), iv xv, iv yv, iv zv, rv a899, .val (.long j4), .second, .val (.long j5), .second, .val (.long (j4 ^^^ (-1 : Int64))), .second, .val (.long (j4 ^^^ j5)), .second, rv a907] [(.int (0 : Int32)), (.ref a907)])
      obtain ⟨cl930, A930, -, S930, M930, H930, -⟩ := id V928
      have B930 := inb_of S930 (j := (0 : Int32)) (by decide)
      refine go (fun _ => X928.laload hx (j := (0 : Int32)) (v := (.long ((own_add (own_f j4 j5 (j4 ^^^ (-1 : Int64)) (j4 ^^^ j5)) ij0.toNatClampNeg wj0) 0))) (by rw [e928]; exact A930.1) (State.isArrayOf_alike hZ.alike A930.2.1) A930.2.2 B930 (H930.at B930 rfl) (g := (mkF m 132 #[iv i0, iv i1, iv i2, iv i3, .val (.long j4), .second, .val (.long j5), .second, iv (3 : Int32), iv xv, iv yv, iv zv, rv a899, .val (.long j4), .second, .val (.long j5), .second, .val (.long (j4 ^^^ (-1 : Int64))), .second, .val (.long (j4 ^^^ j5)), .second, rv a907] [(.int (0 : Int32)), (.ref a907)])) rfl rfl (hb hby at_132) _) ?_
      show Ends p e below s _ _ _ T928 (mkF m 133 #[iv i0, iv i1, iv i2, iv i3, .val (.long j4), .second, .val (.long j5), .second, iv (3 : Int32), iv xv, iv yv, iv zv, rv a899, .val (.long j4), .second, .val (.long j5), .second, .val (.long (j4 ^^^ (-1 : Int64))), .second, .val (.long (j4 ^^^ j5)), .second, rv a907] [(.long ((own_add (own_f j4 j5 (j4 ^^^ (-1 : Int64)) (j4 ^^^ j5)) ij0.toNatClampNeg wj0) 0))])
      refine go (fun _ => XT.iconstV X928.here hx rfl (0 : Int32) (hb hby at_133) (by decide)) ?_
      refine go (fun _ => XT.lload X928.here hx rfl (hb hby at_134) rfl) ?_
      refine go (fun _ => XS.iload X928.here hx rfl (hb hby at_136) rfl) ?_
      refine go (fun _ => XS.iload X928.here hx rfl (hb hby at_138) rfl) ?_
      refine go (fun _ => XS.iload X928.here hx rfl (hb hby at_140) rfl) ?_
      refine go (fun _ => XS.iload X928.here hx rfl (hb hby at_142) rfl) ?_
      show Ends p e below s _ _ _ T928 (mkF m 144 #[iv i0, iv i1, iv i2, iv i3, .val (.long j4), .second, .val (.long j5), .second, iv (3 : Int32), iv xv, iv yv, iv zv, rv a899, .val (.long j4), .second, .val (.long j5), .second, .val (.long (j4 ^^^ (-1 : Int64))), .second, .val (.long (j4 ^^^ j5)), .second, rv a907] [(.int zv), (.int yv), (.int xv), (.int (3 : Int32)), (.long j4), (.int (0 : Int32)), (.long ((own_add (own_f j4 j5 (j4 ^^^ (-1 : Int64)) (j4 ^^^ j5)) ij0.toNatClampNeg wj0) 0))])
      refine cStat X928 hx hZ hown (by rw [hml]; rfl) e928 (hwi hw 65 rfl) (hwi hw 66 rfl) (hwi hw 67 rfl) (hwi hw 68 rfl) [(.int (0 : Int32)), (.long j4), (.int (3 : Int32)), (.int xv), (.int yv), (.int zv)] [(.long ((own_add (own_f j4 j5 (j4 ^^^ (-1 : Int64)) (j4 ^^^ j5)) ij0.toNatClampNeg wj0) 0))] rfl (rm_exp3 hw (0 : Int32) j4 xv yv zv _) (hb hby at_144) rfl (lenOf pd_13 rfl) (by decide) (by decide) (Nat.le_of_ble_eq_true rfl) (by decide) (by decide) ?_
      rintro v931 T931 h931 L931 X931 e931 ⟨rfl, N931, rfl⟩
      have N931a := Fr.app N928a N931
      show Ends p e below s _ _ _ T931 (mkF m 147 #[iv i0, iv i1, iv i2, iv i3, .val (.long j4), .second, .val (.long j5), .second, iv (3 : Int32), iv xv, iv yv, iv zv, rv a899, .val (.long j4), .second, .val (.long j5), .second, .val (.long (j4 ^^^ (-1 : Int64))), .second, .val (.long (j4 ^^^ j5)), .second, rv a907] [(.long (own_acc (XT.ushr zv (6 : Int32)) (0 : Int32) (own_acc (XT.ushr yv (6 : Int32)) (0 : Int32) (own_acc (XT.ushr xv (6 : Int32)) (0 : Int32) j4 ((1 : Int64) <<< (xv.toInt64 &&& 63))) ((1 : Int64) <<< (yv.toInt64 &&& 63))) ((1 : Int64) <<< (zv.toInt64 &&& 63)))), (.long ((own_add (own_f j4 j5 (j4 ^^^ (-1 : Int64)) (j4 ^^^ j5)) ij0.toNatClampNeg wj0) 0))])
      refine go (fun _ => XT.lcmp X931.here hx rfl (hb hby at_147) rfl) ?_
      show Ends p e below s _ _ _ T931 (mkF m 148 #[iv i0, iv i1, iv i2, iv i3, .val (.long j4), .second, .val (.long j5), .second, iv (3 : Int32), iv xv, iv yv, iv zv, rv a899, .val (.long j4), .second, .val (.long j5), .second, .val (.long (j4 ^^^ (-1 : Int64))), .second, .val (.long (j4 ^^^ j5)), .second, rv a907] [(.int (XT.cmpL ((own_add (own_f j4 j5 (j4 ^^^ (-1 : Int64)) (j4 ^^^ j5)) ij0.toNatClampNeg wj0) 0) (own_acc (XT.ushr zv (6 : Int32)) (0 : Int32) (own_acc (XT.ushr yv (6 : Int32)) (0 : Int32) (own_acc (XT.ushr xv (6 : Int32)) (0 : Int32) j4 ((1 : Int64) <<< (xv.toInt64 &&& 63))) ((1 : Int64) <<< (yv.toInt64 &&& 63))) ((1 : Int64) <<< (zv.toInt64 &&& 63)))))])
      refine go (fun _ => XS.ifNo X931.here hx rfl (hb hby at_148) rfl (XT.ll_ne_f qj0)) ?_
      show Ends p e below s _ _ _ T931 (mkF m 151 #[iv i0, iv i1, iv i2, iv i3, .val (.long j4), .second, .val (.long j5), .second, iv (3 : Int32), iv xv, iv yv, iv zv, rv a899, .val (.long j4), .second, .val (.long j5), .second, .val (.long (j4 ^^^ (-1 : Int64))), .second, .val (.long (j4 ^^^ j5)), .second, rv a907] [])
      refine go (fun _ => XS.aload X931.here hx rfl (hb hby at_151) rfl rfl) ?_
      refine go (fun _ => XT.iconstV X931.here hx rfl (1 : Int32) (hb hby at_153) (by decide)) ?_
      show Ends p e below s _ _ _ T931 (mkF m 154 #[iv i0, iv i1, iv i2, iv i3, .val (.long j4), .second, .val (.long j5), .second, iv (3 : Int32), iv xv, iv yv, iv zv, rv a899, .val (.long j4), .second, .val (.long j5), .second, .val (.long (j4 ^^^ (-1 : Int64))), .second, .val (.long (j4 ^^^ j5)), .second, rv a907] [(.int (1 : Int32)), (.ref a907)])
      obtain ⟨cl932, A932, -, S932, M932, H932, -⟩ := id V928
      have B932 := inb_of S932 (j := (1 : Int32)) (by decide)
      refine go (fun _ => X931.laload hx (j := (1 : Int32)) (v := (.long ((own_add (own_f j4 j5 (j4 ^^^ (-1 : Int64)) (j4 ^^^ j5)) ij0.toNatClampNeg wj0) 1))) (by rw [e931]; exact A932.1) (State.isArrayOf_alike hZ.alike A932.2.1) A932.2.2 B932 (H932.at B932 rfl) (g := (mkF m 154 #[iv i0, iv i1, iv i2, iv i3, .val (.long j4), .second, .val (.long j5), .second, iv (3 : Int32), iv xv, iv yv, iv zv, rv a899, .val (.long j4), .second, .val (.long j5), .second, .val (.long (j4 ^^^ (-1 : Int64))), .second, .val (.long (j4 ^^^ j5)), .second, rv a907] [(.int (1 : Int32)), (.ref a907)])) rfl rfl (hb hby at_154) _) ?_
      show Ends p e below s _ _ _ T931 (mkF m 155 #[iv i0, iv i1, iv i2, iv i3, .val (.long j4), .second, .val (.long j5), .second, iv (3 : Int32), iv xv, iv yv, iv zv, rv a899, .val (.long j4), .second, .val (.long j5), .second, .val (.long (j4 ^^^ (-1 : Int64))), .second, .val (.long (j4 ^^^ j5)), .second, rv a907] [(.long ((own_add (own_f j4 j5 (j4 ^^^ (-1 : Int64)) (j4 ^^^ j5)) ij0.toNatClampNeg wj0) 1))])
      refine go (fun _ => XT.iconstV X931.here hx rfl (1 : Int32) (hb hby at_155) (by decide)) ?_
      refine go (fun _ => XT.lload X931.here hx rfl (hb hby at_156) rfl) ?_
      refine go (fun _ => XS.iload X931.here hx rfl (hb hby at_158) rfl) ?_
      refine go (fun _ => XS.iload X931.here hx rfl (hb hby at_160) rfl) ?_
      refine go (fun _ => XS.iload X931.here hx rfl (hb hby at_162) rfl) ?_
      refine go (fun _ => XS.iload X931.here hx rfl (hb hby at_164) rfl) ?_
      show Ends p e below s _ _ _ T931 (mkF m 166 #[iv i0, iv i1, iv i2, iv i3, .val (.long j4), .second, .val (.long j5), .second, iv (3 : Int32), iv xv, iv yv, iv zv, rv a899, .val (.long j4), .second, .val (.long j5), .second, .val (.long (j4 ^^^ (-1 : Int64))), .second, .val (.long (j4 ^^^ j5)), .second, rv a907] [(.int zv), (.int yv), (.int xv), (.int (3 : Int32)), (.long j5), (.int (1 : Int32)), (.long ((own_add (own_f j4 j5 (j4 ^^^ (-1 : Int64)) (j4 ^^^ j5)) ij0.toNatClampNeg wj0) 1))])
      refine cStat X931 hx hZ hown (by rw [hml]; rfl) e931 (hwi hw 65 rfl) (hwi hw 66 rfl) (hwi hw 67 rfl) (hwi hw 68 rfl) [(.int (1 : Int32)), (.long j5), (.int (3 : Int32)), (.int xv), (.int yv), (.int zv)] [(.long ((own_add (own_f j4 j5 (j4 ^^^ (-1 : Int64)) (j4 ^^^ j5)) ij0.toNatClampNeg wj0) 1))] rfl (rm_exp3 hw (1 : Int32) j5 xv yv zv _) (hb hby at_166) rfl (lenOf pd_13 rfl) (by decide) (by decide) (Nat.le_of_ble_eq_true rfl) (by decide) (by decide) ?_
      rintro v933 T933 h933 L933 X933 e933 ⟨rfl, N933, rfl⟩
      have N933a := Fr.app N931a N933
      show Ends p e below s _ _ _ T933 (mkF m 169 #[iv i0, iv i1, iv i2, iv i3, .val (.long j4), .second, .val (.long j5), .second, iv (3 : Int32), iv xv, iv yv, iv zv, rv a899, .val (.long j4), .second, .val (.long j5), .second, .val (.long (j4 ^^^ (-1 : Int64))), .second, .val (.long (j4 ^^^ j5)), .second, rv a907] [(.long (own_acc (XT.ushr zv (6 : Int32)) (1 : Int32) (own_acc (XT.ushr yv (6 : Int32)) (1 : Int32) (own_acc (XT.ushr xv (6 : Int32)) (1 : Int32) j5 ((1 : Int64) <<< (xv.toInt64 &&& 63))) ((1 : Int64) <<< (yv.toInt64 &&& 63))) ((1 : Int64) <<< (zv.toInt64 &&& 63)))), (.long ((own_add (own_f j4 j5 (j4 ^^^ (-1 : Int64)) (j4 ^^^ j5)) ij0.toNatClampNeg wj0) 1))])
      refine go (fun _ => XT.lcmp X933.here hx rfl (hb hby at_169) rfl) ?_
      show Ends p e below s _ _ _ T933 (mkF m 170 #[iv i0, iv i1, iv i2, iv i3, .val (.long j4), .second, .val (.long j5), .second, iv (3 : Int32), iv xv, iv yv, iv zv, rv a899, .val (.long j4), .second, .val (.long j5), .second, .val (.long (j4 ^^^ (-1 : Int64))), .second, .val (.long (j4 ^^^ j5)), .second, rv a907] [(.int (XT.cmpL ((own_add (own_f j4 j5 (j4 ^^^ (-1 : Int64)) (j4 ^^^ j5)) ij0.toNatClampNeg wj0) 1) (own_acc (XT.ushr zv (6 : Int32)) (1 : Int32) (own_acc (XT.ushr yv (6 : Int32)) (1 : Int32) (own_acc (XT.ushr xv (6 : Int32)) (1 : Int32) j5 ((1 : Int64) <<< (xv.toInt64 &&& 63))) ((1 : Int64) <<< (yv.toInt64 &&& 63))) ((1 : Int64) <<< (zv.toInt64 &&& 63)))))])
      refine go (fun _ => XS.ifNo X933.here hx rfl (hb hby at_170) rfl (XT.ll_ne_f qj1)) ?_
      show Ends p e below s _ _ _ T933 (mkF m 173 #[iv i0, iv i1, iv i2, iv i3, .val (.long j4), .second, .val (.long j5), .second, iv (3 : Int32), iv xv, iv yv, iv zv, rv a899, .val (.long j4), .second, .val (.long j5), .second, .val (.long (j4 ^^^ (-1 : Int64))), .second, .val (.long (j4 ^^^ j5)), .second, rv a907] [])
      refine go (fun _ => XS.aload X933.here hx rfl (hb hby at_173) rfl rfl) ?_
      refine go (fun _ => XT.iconstV X933.here hx rfl (2 : Int32) (hb hby at_175) (by decide)) ?_
      show Ends p e below s _ _ _ T933 (mkF m 176 #[iv i0, iv i1, iv i2, iv i3, .val (.long j4), .second, .val (.long j5), .second, iv (3 : Int32), iv xv, iv yv, iv zv, rv a899, .val (.long j4), .second, .val (.long j5), .second, .val (.long (j4 ^^^ (-1 : Int64))), .second, .val (.long (j4 ^^^ j5)), .second, rv a907] [(.int (2 : Int32)), (.ref a907)])
      obtain ⟨cl934, A934, -, S934, M934, H934, -⟩ := id V928
      have B934 := inb_of S934 (j := (2 : Int32)) (by decide)
      refine go (fun _ => X933.laload hx (j := (2 : Int32)) (v := (.long ((own_add (own_f j4 j5 (j4 ^^^ (-1 : Int64)) (j4 ^^^ j5)) ij0.toNatClampNeg wj0) 2))) (by rw [e933]; exact A934.1) (State.isArrayOf_alike hZ.alike A934.2.1) A934.2.2 B934 (H934.at B934 rfl) (g := (mkF m 176 #[iv i0, iv i1, iv i2, iv i3, .val (.long j4), .second, .val (.long j5), .second, iv (3 : Int32), iv xv, iv yv, iv zv, rv a899, .val (.long j4), .second, .val (.long j5), .second, .val (.long (j4 ^^^ (-1 : Int64))), .second, .val (.long (j4 ^^^ j5)), .second, rv a907] [(.int (2 : Int32)), (.ref a907)])) rfl rfl (hb hby at_176) _) ?_
      show Ends p e below s _ _ _ T933 (mkF m 177 #[iv i0, iv i1, iv i2, iv i3, .val (.long j4), .second, .val (.long j5), .second, iv (3 : Int32), iv xv, iv yv, iv zv, rv a899, .val (.long j4), .second, .val (.long j5), .second, .val (.long (j4 ^^^ (-1 : Int64))), .second, .val (.long (j4 ^^^ j5)), .second, rv a907] [(.long ((own_add (own_f j4 j5 (j4 ^^^ (-1 : Int64)) (j4 ^^^ j5)) ij0.toNatClampNeg wj0) 2))])
      refine go (fun _ => XT.iconstV X933.here hx rfl (2 : Int32) (hb hby at_177) (by decide)) ?_
      refine go (fun _ => XT.lload X933.here hx rfl (hb hby at_178) rfl) ?_
      refine go (fun _ => XS.iload X933.here hx rfl (hb hby at_180) rfl) ?_
      refine go (fun _ => XS.iload X933.here hx rfl (hb hby at_182) rfl) ?_
      refine go (fun _ => XS.iload X933.here hx rfl (hb hby at_184) rfl) ?_
      refine go (fun _ => XS.iload X933.here hx rfl (hb hby at_186) rfl) ?_
      show Ends p e below s _ _ _ T933 (mkF m 188 #[iv i0, iv i1, iv i2, iv i3, .val (.long j4), .second, .val (.long j5), .second, iv (3 : Int32), iv xv, iv yv, iv zv, rv a899, .val (.long j4), .second, .val (.long j5), .second, .val (.long (j4 ^^^ (-1 : Int64))), .second, .val (.long (j4 ^^^ j5)), .second, rv a907] [(.int zv), (.int yv), (.int xv), (.int (3 : Int32)), (.long (j4 ^^^ (-1 : Int64))), (.int (2 : Int32)), (.long ((own_add (own_f j4 j5 (j4 ^^^ (-1 : Int64)) (j4 ^^^ j5)) ij0.toNatClampNeg wj0) 2))])
      refine cStat X933 hx hZ hown (by rw [hml]; rfl) e933 (hwi hw 65 rfl) (hwi hw 66 rfl) (hwi hw 67 rfl) (hwi hw 68 rfl) [(.int (2 : Int32)), (.long (j4 ^^^ (-1 : Int64))), (.int (3 : Int32)), (.int xv), (.int yv), (.int zv)] [(.long ((own_add (own_f j4 j5 (j4 ^^^ (-1 : Int64)) (j4 ^^^ j5)) ij0.toNatClampNeg wj0) 2))] rfl (rm_exp3 hw (2 : Int32) (j4 ^^^ (-1 : Int64)) xv yv zv _) (hb hby at_188) rfl (lenOf pd_13 rfl) (by decide) (by decide) (Nat.le_of_ble_eq_true rfl) (by decide) (by decide) ?_
      rintro v935 T935 h935 L935 X935 e935 ⟨rfl, N935, rfl⟩
      have N935a := Fr.app N933a N935
      show Ends p e below s _ _ _ T935 (mkF m 191 #[iv i0, iv i1, iv i2, iv i3, .val (.long j4), .second, .val (.long j5), .second, iv (3 : Int32), iv xv, iv yv, iv zv, rv a899, .val (.long j4), .second, .val (.long j5), .second, .val (.long (j4 ^^^ (-1 : Int64))), .second, .val (.long (j4 ^^^ j5)), .second, rv a907] [(.long (own_acc (XT.ushr zv (6 : Int32)) (2 : Int32) (own_acc (XT.ushr yv (6 : Int32)) (2 : Int32) (own_acc (XT.ushr xv (6 : Int32)) (2 : Int32) (j4 ^^^ (-1 : Int64)) ((1 : Int64) <<< (xv.toInt64 &&& 63))) ((1 : Int64) <<< (yv.toInt64 &&& 63))) ((1 : Int64) <<< (zv.toInt64 &&& 63)))), (.long ((own_add (own_f j4 j5 (j4 ^^^ (-1 : Int64)) (j4 ^^^ j5)) ij0.toNatClampNeg wj0) 2))])
      refine go (fun _ => XT.lcmp X935.here hx rfl (hb hby at_191) rfl) ?_
      show Ends p e below s _ _ _ T935 (mkF m 192 #[iv i0, iv i1, iv i2, iv i3, .val (.long j4), .second, .val (.long j5), .second, iv (3 : Int32), iv xv, iv yv, iv zv, rv a899, .val (.long j4), .second, .val (.long j5), .second, .val (.long (j4 ^^^ (-1 : Int64))), .second, .val (.long (j4 ^^^ j5)), .second, rv a907] [(.int (XT.cmpL ((own_add (own_f j4 j5 (j4 ^^^ (-1 : Int64)) (j4 ^^^ j5)) ij0.toNatClampNeg wj0) 2) (own_acc (XT.ushr zv (6 : Int32)) (2 : Int32) (own_acc (XT.ushr yv (6 : Int32)) (2 : Int32) (own_acc (XT.ushr xv (6 : Int32)) (2 : Int32) (j4 ^^^ (-1 : Int64)) ((1 : Int64) <<< (xv.toInt64 &&& 63))) ((1 : Int64) <<< (yv.toInt64 &&& 63))) ((1 : Int64) <<< (zv.toInt64 &&& 63)))))])
      refine go (fun _ => XS.ifNo X935.here hx rfl (hb hby at_192) rfl (XT.ll_ne_f qj2)) ?_
      show Ends p e below s _ _ _ T935 (mkF m 195 #[iv i0, iv i1, iv i2, iv i3, .val (.long j4), .second, .val (.long j5), .second, iv (3 : Int32), iv xv, iv yv, iv zv, rv a899, .val (.long j4), .second, .val (.long j5), .second, .val (.long (j4 ^^^ (-1 : Int64))), .second, .val (.long (j4 ^^^ j5)), .second, rv a907] [])
      refine go (fun _ => XS.aload X935.here hx rfl (hb hby at_195) rfl rfl) ?_
      refine go (fun _ => XT.iconstV X935.here hx rfl (3 : Int32) (hb hby at_197) (by decide)) ?_
      show Ends p e below s _ _ _ T935 (mkF m 198 #[iv i0, iv i1, iv i2, iv i3, .val (.long j4), .second, .val (.long j5), .second, iv (3 : Int32), iv xv, iv yv, iv zv, rv a899, .val (.long j4), .second, .val (.long j5), .second, .val (.long (j4 ^^^ (-1 : Int64))), .second, .val (.long (j4 ^^^ j5)), .second, rv a907] [(.int (3 : Int32)), (.ref a907)])
      obtain ⟨cl936, A936, -, S936, M936, H936, -⟩ := id V928
      have B936 := inb_of S936 (j := (3 : Int32)) (by decide)
      refine go (fun _ => X935.laload hx (j := (3 : Int32)) (v := (.long ((own_add (own_f j4 j5 (j4 ^^^ (-1 : Int64)) (j4 ^^^ j5)) ij0.toNatClampNeg wj0) 3))) (by rw [e935]; exact A936.1) (State.isArrayOf_alike hZ.alike A936.2.1) A936.2.2 B936 (H936.at B936 rfl) (g := (mkF m 198 #[iv i0, iv i1, iv i2, iv i3, .val (.long j4), .second, .val (.long j5), .second, iv (3 : Int32), iv xv, iv yv, iv zv, rv a899, .val (.long j4), .second, .val (.long j5), .second, .val (.long (j4 ^^^ (-1 : Int64))), .second, .val (.long (j4 ^^^ j5)), .second, rv a907] [(.int (3 : Int32)), (.ref a907)])) rfl rfl (hb hby at_198) _) ?_
      show Ends p e below s _ _ _ T935 (mkF m 199 #[iv i0, iv i1, iv i2, iv i3, .val (.long j4), .second, .val (.long j5), .second, iv (3 : Int32), iv xv, iv yv, iv zv, rv a899, .val (.long j4), .second, .val (.long j5), .second, .val (.long (j4 ^^^ (-1 : Int64))), .second, .val (.long (j4 ^^^ j5)), .second, rv a907] [(.long ((own_add (own_f j4 j5 (j4 ^^^ (-1 : Int64)) (j4 ^^^ j5)) ij0.toNatClampNeg wj0) 3))])
      refine go (fun _ => XT.iconstV X935.here hx rfl (3 : Int32) (hb hby at_199) (by decide)) ?_
      refine go (fun _ => XT.lload X935.here hx rfl (hb hby at_200) rfl) ?_
      refine go (fun _ => XS.iload X935.here hx rfl (hb hby at_202) rfl) ?_
      refine go (fun _ => XS.iload X935.here hx rfl (hb hby at_204) rfl) ?_
      refine go (fun _ => XS.iload X935.here hx rfl (hb hby at_206) rfl) ?_
      refine go (fun _ => XS.iload X935.here hx rfl (hb hby at_208) rfl) ?_
      show Ends p e below s _ _ _ T935 (mkF m 210 #[iv i0, iv i1, iv i2, iv i3, .val (.long j4), .second, .val (.long j5), .second, iv (3 : Int32), iv xv, iv yv, iv zv, rv a899, .val (.long j4), .second, .val (.long j5), .second, .val (.long (j4 ^^^ (-1 : Int64))), .second, .val (.long (j4 ^^^ j5)), .second, rv a907] [(.int zv), (.int yv), (.int xv), (.int (3 : Int32)), (.long (j4 ^^^ j5)), (.int (3 : Int32)), (.long ((own_add (own_f j4 j5 (j4 ^^^ (-1 : Int64)) (j4 ^^^ j5)) ij0.toNatClampNeg wj0) 3))])
      refine cStat X935 hx hZ hown (by rw [hml]; rfl) e935 (hwi hw 65 rfl) (hwi hw 66 rfl) (hwi hw 67 rfl) (hwi hw 68 rfl) [(.int (3 : Int32)), (.long (j4 ^^^ j5)), (.int (3 : Int32)), (.int xv), (.int yv), (.int zv)] [(.long ((own_add (own_f j4 j5 (j4 ^^^ (-1 : Int64)) (j4 ^^^ j5)) ij0.toNatClampNeg wj0) 3))] rfl (rm_exp3 hw (3 : Int32) (j4 ^^^ j5) xv yv zv _) (hb hby at_210) rfl (lenOf pd_13 rfl) (by decide) (by decide) (Nat.le_of_ble_eq_true rfl) (by decide) (by decide) ?_
      rintro v937 T937 h937 L937 X937 e937 ⟨rfl, N937, rfl⟩
      have N937a := Fr.app N935a N937
      show Ends p e below s _ _ _ T937 (mkF m 213 #[iv i0, iv i1, iv i2, iv i3, .val (.long j4), .second, .val (.long j5), .second, iv (3 : Int32), iv xv, iv yv, iv zv, rv a899, .val (.long j4), .second, .val (.long j5), .second, .val (.long (j4 ^^^ (-1 : Int64))), .second, .val (.long (j4 ^^^ j5)), .second, rv a907] [(.long (own_acc (XT.ushr zv (6 : Int32)) (3 : Int32) (own_acc (XT.ushr yv (6 : Int32)) (3 : Int32) (own_acc (XT.ushr xv (6 : Int32)) (3 : Int32) (j4 ^^^ j5) ((1 : Int64) <<< (xv.toInt64 &&& 63))) ((1 : Int64) <<< (yv.toInt64 &&& 63))) ((1 : Int64) <<< (zv.toInt64 &&& 63)))), (.long ((own_add (own_f j4 j5 (j4 ^^^ (-1 : Int64)) (j4 ^^^ j5)) ij0.toNatClampNeg wj0) 3))])
      refine go (fun _ => XT.lcmp X937.here hx rfl (hb hby at_213) rfl) ?_
      show Ends p e below s _ _ _ T937 (mkF m 214 #[iv i0, iv i1, iv i2, iv i3, .val (.long j4), .second, .val (.long j5), .second, iv (3 : Int32), iv xv, iv yv, iv zv, rv a899, .val (.long j4), .second, .val (.long j5), .second, .val (.long (j4 ^^^ (-1 : Int64))), .second, .val (.long (j4 ^^^ j5)), .second, rv a907] [(.int (XT.cmpL ((own_add (own_f j4 j5 (j4 ^^^ (-1 : Int64)) (j4 ^^^ j5)) ij0.toNatClampNeg wj0) 3) (own_acc (XT.ushr zv (6 : Int32)) (3 : Int32) (own_acc (XT.ushr yv (6 : Int32)) (3 : Int32) (own_acc (XT.ushr xv (6 : Int32)) (3 : Int32) (j4 ^^^ j5) ((1 : Int64) <<< (xv.toInt64 &&& 63))) ((1 : Int64) <<< (yv.toInt64 &&& 63))) ((1 : Int64) <<< (zv.toInt64 &&& 63)))))])
      refine go (fun _ => XS.ifNo X937.here hx rfl (hb hby at_214) rfl (XT.ll_ne_f qj3)) ?_
      show Ends p e below s _ _ _ T937 (mkF m 217 #[iv i0, iv i1, iv i2, iv i3, .val (.long j4), .second, .val (.long j5), .second, iv (3 : Int32), iv xv, iv yv, iv zv, rv a899, .val (.long j4), .second, .val (.long j5), .second, .val (.long (j4 ^^^ (-1 : Int64))), .second, .val (.long (j4 ^^^ j5)), .second, rv a907] [])
      refine go (fun _ => XT.iconstV X937.here hx rfl (1 : Int32) (hb hby at_217) (by decide)) ?_
      refine go (fun _ => XS.goto X937.here hx rfl (pc0 := 218) (pc' := 222) rfl (hb hby at_218) (by decide) (by decide)) ?_
      show Ends p e below s _ _ _ T937 (mkF m 222 #[iv i0, iv i1, iv i2, iv i3, .val (.long j4), .second, .val (.long j5), .second, iv (3 : Int32), iv xv, iv yv, iv zv, rv a899, .val (.long j4), .second, .val (.long j5), .second, .val (.long (j4 ^^^ (-1 : Int64))), .second, .val (.long (j4 ^^^ j5)), .second, rv a907] [(.int (1 : Int32))])
      exact endN X937 hx hlk hret (by simp) (hb hby at_222) e937 ⟨rfl, N937a⟩ (by decide) (by decide)
    have J3_2_0 : ∀ (TJ : State) (hJ : Heap) (LJ : List Loc) (aiJ awJ : Addr) (kiJ kwJ : ClassId) (ij0 ij1 : Int32) (wj0 wj1 : Int64) (XJ : Stand p l e room_1 s m #[(.int i0), (.int i1), (.int i2), (.int i3), (.long j4), (.long j5)] below meth c TJ LJ 8 64) (eJ : TJ.heap = hJ) (OJ : Ext Z.heap hJ) (NJ : Fr Z.heap.size LJ) (EJ : Exa Z hJ a899 "com/example/libtbox/libtbox/core/SparseBitSet") (PJ0 : Fld Z hJ a899 "com/example/libtbox/libtbox/core/SparseBitSet" "indices" "[I" (.ref aiJ)) (PJ1 : Fld Z hJ a899 "com/example/libtbox/libtbox/core/SparseBitSet" "words" "[J" (.ref awJ)) (PJ2 : Fld Z hJ a899 "com/example/libtbox/libtbox/core/SparseBitSet" "count" "I" (.int (2 : Int32))) (PJ3 : Fld Z hJ a899 "com/example/libtbox/libtbox/core/SparseBitSet" "lastFound" "I" (.int (0 : Int32))) (PJ4 : Arv Z hJ aiJ kiJ .int (2 : Int32) [(.int ij0), (.int ij1)] (.int 0)) (PJ5 : Arv Z hJ awJ kwJ .long (2 : Int32) [(.long wj0), (.long wj1)] (.long 0)) (fiJ : Z.heap.size ≤ aiJ) (fwJ : Z.heap.size ≤ awJ) (n1J : a899 ≠ aiJ) (n2J : a899 ≠ awJ) (n3J : aiJ ≠ awJ) (gj0 : ¬ ij0 < 0 ∧ ij0 < 4) (gj1 : ¬ ij1 < 0 ∧ ij1 < 4) (qj0 : ((own_add (own_add (own_f j4 j5 (j4 ^^^ (-1 : Int64)) (j4 ^^^ j5)) ij0.toNatClampNeg wj0) ij1.toNatClampNeg wj1) 0) = (own_acc (XT.ushr zv (6 : Int32)) (0 : Int32) (own_acc (XT.ushr yv (6 : Int32)) (0 : Int32) (own_acc (XT.ushr xv (6 : Int32)) (0 : Int32) j4 ((1 : Int64) <<< (xv.toInt64 &&& 63))) ((1 : Int64) <<< (yv.toInt64 &&& 63))) ((1 : Int64) <<< (zv.toInt64 &&& 63)))) (qj1 : ((own_add (own_add (own_f j4 j5 (j4 ^^^ (-1 : Int64)) (j4 ^^^ j5)) ij0.toNatClampNeg wj0) ij1.toNatClampNeg wj1) 1) = (own_acc (XT.ushr zv (6 : Int32)) (1 : Int32) (own_acc (XT.ushr yv (6 : Int32)) (1 : Int32) (own_acc (XT.ushr xv (6 : Int32)) (1 : Int32) j5 ((1 : Int64) <<< (xv.toInt64 &&& 63))) ((1 : Int64) <<< (yv.toInt64 &&& 63))) ((1 : Int64) <<< (zv.toInt64 &&& 63)))) (qj2 : ((own_add (own_add (own_f j4 j5 (j4 ^^^ (-1 : Int64)) (j4 ^^^ j5)) ij0.toNatClampNeg wj0) ij1.toNatClampNeg wj1) 2) = (own_acc (XT.ushr zv (6 : Int32)) (2 : Int32) (own_acc (XT.ushr yv (6 : Int32)) (2 : Int32) (own_acc (XT.ushr xv (6 : Int32)) (2 : Int32) (j4 ^^^ (-1 : Int64)) ((1 : Int64) <<< (xv.toInt64 &&& 63))) ((1 : Int64) <<< (yv.toInt64 &&& 63))) ((1 : Int64) <<< (zv.toInt64 &&& 63)))) (qj3 : ((own_add (own_add (own_f j4 j5 (j4 ^^^ (-1 : Int64)) (j4 ^^^ j5)) ij0.toNatClampNeg wj0) ij1.toNatClampNeg wj1) 3) = (own_acc (XT.ushr zv (6 : Int32)) (3 : Int32) (own_acc (XT.ushr yv (6 : Int32)) (3 : Int32) (own_acc (XT.ushr xv (6 : Int32)) (3 : Int32) (j4 ^^^ j5) ((1 : Int64) <<< (xv.toInt64 &&& 63))) ((1 : Int64) <<< (yv.toInt64 &&& 63))) ((1 : Int64) <<< (zv.toInt64 &&& 63)))), Ends p e below s (fun v h L => v = some (.int 1) ∧ Fr Z.heap.size L) room_1.cells room_1.slots TJ (mkF m 74 #[iv i0, iv i1, iv i2, iv i3, .val (.long j4), .second, .val (.long j5), .second, iv (3 : Int32), iv xv, iv yv, iv zv, rv a899, .unset, .unset, .unset, .unset, .unset, .unset, .unset, .unset, .unset] []) := by
      intro TJ hJ LJ aiJ awJ kiJ kwJ ij0 ij1 wj0 wj1 XJ eJ OJ NJ EJ PJ0 PJ1 PJ2 PJ3 PJ4 PJ5 fiJ fwJ n1J n2J n3J gj0 gj1 qj0 qj1 qj2 qj3
      refine go (fun _ => XT.lload XJ.here hx rfl (hb hby at_74) rfl) ?_
      refine go (fun _ => XT.lstore XJ.here hx rfl (hb hby at_76) rfl (l' := #[iv i0, iv i1, iv i2, iv i3, .val (.long j4), .second, .val (.long j5), .second, iv (3 : Int32), iv xv, iv yv, iv zv, rv a899, .val (.long j4), .second, .unset, .unset, .unset, .unset, .unset, .unset, .unset]) rfl) ?_
      refine go (fun _ => XT.lload XJ.here hx rfl (hb hby at_78) rfl) ?_
      refine go (fun _ => XT.lstore XJ.here hx rfl (hb hby at_80) rfl (l' := #[iv i0, iv i1, iv i2, iv i3, .val (.long j4), .second, .val (.long j5), .second, iv (3 : Int32), iv xv, iv yv, iv zv, rv a899, .val (.long j4), .second, .val (.long j5), .second, .unset, .unset, .unset, .unset, .unset]) rfl) ?_
      refine go (fun _ => XT.lload XJ.here hx rfl (hb hby at_82) rfl) ?_
      show Ends p e below s _ _ _ TJ (mkF m 84 #[iv i0, iv i1, iv i2, iv i3, .val (.long j4), .second, .val (.long j5), .second, iv (3 : Int32), iv xv, iv yv, iv zv, rv a899, .val (.long j4), .second, .val (.long j5), .second, .unset, .unset, .unset, .unset, .unset] [(.long j4)])
      refine go (fun _ => Jvm.Stand.ldc2J XJ hx hown (mvT hZ (hwi hw 59 rfl)) rfl (hb hby at_84)) ?_
      show Ends p e below s _ _ _ TJ (mkF m 87 #[iv i0, iv i1, iv i2, iv i3, .val (.long j4), .second, .val (.long j5), .second, iv (3 : Int32), iv xv, iv yv, iv zv, rv a899, .val (.long j4), .second, .val (.long j5), .second, .unset, .unset, .unset, .unset, .unset] [(.long (-1 : Int64)), (.long j4)])
      refine go (fun _ => XT.lxor XJ.here hx rfl (hb hby at_87) rfl) ?_
      refine go (fun _ => XT.lstore XJ.here hx rfl (hb hby at_88) rfl (l' := #[iv i0, iv i1, iv i2, iv i3, .val (.long j4), .second, .val (.long j5), .second, iv (3 : Int32), iv xv, iv yv, iv zv, rv a899, .val (.long j4), .second, .val (.long j5), .second, .val (.long (j4 ^^^ (-1 : Int64))), .second, .unset, .unset, .unset]) rfl) ?_
      refine go (fun _ => XT.lload XJ.here hx rfl (hb hby at_90) rfl) ?_
      refine go (fun _ => XT.lload XJ.here hx rfl (hb hby at_92) rfl) ?_
      refine go (fun _ => XT.lxor XJ.here hx rfl (hb hby at_94) rfl) ?_
      refine go (fun _ => XT.lstore XJ.here hx rfl (hb hby at_95) rfl (l' := #[iv i0, iv i1, iv i2, iv i3, .val (.long j4), .second, .val (.long j5), .second, iv (3 : Int32), iv xv, iv yv, iv zv, rv a899, .val (.long j4), .second, .val (.long j5), .second, .val (.long (j4 ^^^ (-1 : Int64))), .second, .val (.long (j4 ^^^ j5)), .second, .unset]) rfl) ?_
      show Ends p e below s _ _ _ TJ (mkF m 97 #[iv i0, iv i1, iv i2, iv i3, .val (.long j4), .second, .val (.long j5), .second, iv (3 : Int32), iv xv, iv yv, iv zv, rv a899, .val (.long j4), .second, .val (.long j5), .second, .val (.long (j4 ^^^ (-1 : Int64))), .second, .val (.long (j4 ^^^ j5)), .second, .unset] [])
      refine go (fun _ => XT.iconstV XJ.here hx rfl (4 : Int32) (hb hby at_97) (by decide)) ?_
      show Ends p e below s _ _ _ TJ (mkF m 98 #[iv i0, iv i1, iv i2, iv i3, .val (.long j4), .second, .val (.long j5), .second, iv (3 : Int32), iv xv, iv yv, iv zv, rv a899, .val (.long j4), .second, .val (.long j5), .second, .val (.long (j4 ^^^ (-1 : Int64))), .second, .val (.long (j4 ^^^ j5)), .second, .unset] [(.int (4 : Int32))])
      obtain ⟨T938, h938, k938, X938, e938, E938, A938, s938⟩ := newP XJ hx hZ (hwi hw 57 rfl) eJ (g := (mkF m 98 #[iv i0, iv i1, iv i2, iv i3, .val (.long j4), .second, .val (.long j5), .second, iv (3 : Int32), iv xv, iv yv, iv zv, rv a899, .val (.long j4), .second, .val (.long j5), .second, .val (.long (j4 ^^^ (-1 : Int64))), .second, .val (.long (j4 ^^^ j5)), .second, .unset] [(.int (4 : Int32))])) rfl (hb hby at_98) rfl (by decide) (cap := 4) (by decide) (by decide) (by decide) (by decide)
      obtain ⟨a938, g938⟩ : ∃ z : Addr, z = hJ.size := ⟨_, rfl⟩
      have n939 : a899 ≠ a938 := fun q => absurd (EJ.lt) (by rw [q, g938]; exact Nat.lt_irrefl _)
      have n940 : aiJ ≠ a938 := fun q => absurd (PJ4.lt) (by rw [q, g938]; exact Nat.lt_irrefl _)
      have n941 : awJ ≠ a938 := fun q => absurd (PJ5.lt) (by rw [q, g938]; exact Nat.lt_irrefl _)
      have f938 : Z.heap.size ≤ a938 := by rw [g938]; exact (OJ).1
      rw [← g938] at A938 s938
      have O942 : Ext Z.heap h938 := xx OJ E938
      have V938 : Arv Z h938 a938 k938 .long (4 : Int32) [(.long (0 : Int64)), (.long (0 : Int64)), (.long (0 : Int64)), (.long (0 : Int64))] (.long 0) := Arv.pad (Arv.new A938 (by decide)) (pad_rep [] _ 4)
      refine go s938 ?_
      show Ends p e below s _ _ _ T938 (mkF m 100 #[iv i0, iv i1, iv i2, iv i3, .val (.long j4), .second, .val (.long j5), .second, iv (3 : Int32), iv xv, iv yv, iv zv, rv a899, .val (.long j4), .second, .val (.long j5), .second, .val (.long (j4 ^^^ (-1 : Int64))), .second, .val (.long (j4 ^^^ j5)), .second, .unset] [(.ref a938)])
      refine go (fun _ => XS.dup X938.here hx rfl (hb hby at_100) rfl rfl) ?_
      refine go (fun _ => XT.iconstV X938.here hx rfl (0 : Int32) (hb hby at_101) (by decide)) ?_
      refine go (fun _ => XT.lload X938.here hx rfl (hb hby at_102) rfl) ?_
      show Ends p e below s _ _ _ T938 (mkF m 104 #[iv i0, iv i1, iv i2, iv i3, .val (.long j4), .second, .val (.long j5), .second, iv (3 : Int32), iv xv, iv yv, iv zv, rv a899, .val (.long j4), .second, .val (.long j5), .second, .val (.long (j4 ^^^ (-1 : Int64))), .second, .val (.long (j4 ^^^ j5)), .second, .unset] [(.long j4), (.int (0 : Int32)), (.ref a938), (.ref a938)])
      obtain ⟨cl943, A943, q943, S943, M943, H943, G943⟩ := id V938
      obtain ⟨T943, h943, X943, e943, W943, s943⟩ := stJ X938 hx hZ e938 A943 (j := (0 : Int32)) (inb_of S943 (by decide)) (g := (mkF m 104 #[iv i0, iv i1, iv i2, iv i3, .val (.long j4), .second, .val (.long j5), .second, iv (3 : Int32), iv xv, iv yv, iv zv, rv a899, .val (.long j4), .second, .val (.long j5), .second, .val (.long (j4 ^^^ (-1 : Int64))), .second, .val (.long (j4 ^^^ j5)), .second, .unset] [(.long j4), (.int (0 : Int32)), (.ref a938), (.ref a938)])) rfl rfl (hb hby at_104)
      have N943 := Fr.snoc X943 NJ f938
      have O944 : Ext Z.heap h943 := xw O942 W943 f938
      have V943 : Arv Z h943 a938 k938 .long (4 : Int32) [(.long j4), (.long (0 : Int64)), (.long (0 : Int64)), (.long (0 : Int64))] (.long 0) := Arv.set A943 q943 S943 M943 H943 G943 rfl W943 0 (by decide) (Nat.le_of_ble_eq_true rfl)
      refine go s943 ?_
      show Ends p e below s _ _ _ T943 (mkF m 105 #[iv i0, iv i1, iv i2, iv i3, .val (.long j4), .second, .val (.long j5), .second, iv (3 : Int32), iv xv, iv yv, iv zv, rv a899, .val (.long j4), .second, .val (.long j5), .second, .val (.long (j4 ^^^ (-1 : Int64))), .second, .val (.long (j4 ^^^ j5)), .second, .unset] [(.ref a938)])
      refine go (fun _ => XS.dup X943.here hx rfl (hb hby at_105) rfl rfl) ?_
      refine go (fun _ => XT.iconstV X943.here hx rfl (1 : Int32) (hb hby at_106) (by decide)) ?_
      refine go (fun _ => XT.lload X943.here hx rfl (hb hby at_107) rfl) ?_
      show Ends p e below s _ _ _ T943 (mkF m 109 #[iv i0, iv i1, iv i2, iv i3, .val (.long j4), .second, .val (.long j5), .second, iv (3 : Int32), iv xv, iv yv, iv zv, rv a899, .val (.long j4), .second, .val (.long j5), .second, .val (.long (j4 ^^^ (-1 : Int64))), .second, .val (.long (j4 ^^^ j5)), .second, .unset] [(.long j5), (.int (1 : Int32)), (.ref a938), (.ref a938)])
      obtain ⟨cl945, A945, q945, S945, M945, H945, G945⟩ := id V943
      obtain ⟨T945, h945, X945, e945, W945, s945⟩ := stJ X943 hx hZ e943 A945 (j := (1 : Int32)) (inb_of S945 (by decide)) (g := (mkF m 109 #[iv i0, iv i1, iv i2, iv i3, .val (.long j4), .second, .val (.long j5), .second, iv (3 : Int32), iv xv, iv yv, iv zv, rv a899, .val (.long j4), .second, .val (.long j5), .second, .val (.long (j4 ^^^ (-1 : Int64))), .second, .val (.long (j4 ^^^ j5)), .second, .unset] [(.long j5), (.int (1 : Int32)), (.ref a938), (.ref a938)])) rfl rfl (hb hby at_109)
      have N945 := Fr.snoc X945 N943 f938
      have O946 : Ext Z.heap h945 := xw O944 W945 f938
      have V945 : Arv Z h945 a938 k938 .long (4 : Int32) [(.long j4), (.long j5), (.long (0 : Int64)), (.long (0 : Int64))] (.long 0) := Arv.set A945 q945 S945 M945 H945 G945 rfl W945 1 (by decide) (Nat.le_of_ble_eq_true rfl)
      refine go s945 ?_
      show Ends p e below s _ _ _ T945 (mkF m 110 #[iv i0, iv i1, iv i2, iv i3, .val (.long j4), .second, .val (.long j5), .second, iv (3 : Int32), iv xv, iv yv, iv zv, rv a899, .val (.long j4), .second, .val (.long j5), .second, .val (.long (j4 ^^^ (-1 : Int64))), .second, .val (.long (j4 ^^^ j5)), .second, .unset] [(.ref a938)])
      refine go (fun _ => XS.dup X945.here hx rfl (hb hby at_110) rfl rfl) ?_
      refine go (fun _ => XT.iconstV X945.here hx rfl (2 : Int32) (hb hby at_111) (by decide)) ?_
      refine go (fun _ => XT.lload X945.here hx rfl (hb hby at_112) rfl) ?_
      show Ends p e below s _ _ _ T945 (mkF m 114 #[iv i0, iv i1, iv i2, iv i3, .val (.long j4), .second, .val (.long j5), .second, iv (3 : Int32), iv xv, iv yv, iv zv, rv a899, .val (.long j4), .second, .val (.long j5), .second, .val (.long (j4 ^^^ (-1 : Int64))), .second, .val (.long (j4 ^^^ j5)), .second, .unset] [(.long (j4 ^^^ (-1 : Int64))), (.int (2 : Int32)), (.ref a938), (.ref a938)])
      obtain ⟨cl947, A947, q947, S947, M947, H947, G947⟩ := id V945
      obtain ⟨T947, h947, X947, e947, W947, s947⟩ := stJ X945 hx hZ e945 A947 (j := (2 : Int32)) (inb_of S947 (by decide)) (g := (mkF m 114 #[iv i0, iv i1, iv i2, iv i3, .val (.long j4), .second, .val (.long j5), .second, iv (3 : Int32), iv xv, iv yv, iv zv, rv a899, .val (.long j4), .second, .val (.long j5), .second, .val (.long (j4 ^^^ (-1 : Int64))), .second, .val (.long (j4 ^^^ j5)), .second, .unset] [(.long (j4 ^^^ (-1 : Int64))), (.int (2 : Int32)), (.ref a938), (.ref a938)])) rfl rfl (hb hby at_114)
      have N947 := Fr.snoc X947 N945 f938
      have O948 : Ext Z.heap h947 := xw O946 W947 f938
      have V947 : Arv Z h947 a938 k938 .long (4 : Int32) [(.long j4), (.long j5), (.long (j4 ^^^ (-1 : Int64))), (.long (0 : Int64))] (.long 0) := Arv.set A947 q947 S947 M947 H947 G947 rfl W947 2 (by decide) (Nat.le_of_ble_eq_true rfl)
      refine go s947 ?_
      show Ends p e below s _ _ _ T947 (mkF m 115 #[iv i0, iv i1, iv i2, iv i3, .val (.long j4), .second, .val (.long j5), .second, iv (3 : Int32), iv xv, iv yv, iv zv, rv a899, .val (.long j4), .second, .val (.long j5), .second, .val (.long (j4 ^^^ (-1 : Int64))), .second, .val (.long (j4 ^^^ j5)), .second, .unset] [(.ref a938)])
      refine go (fun _ => XS.dup X947.here hx rfl (hb hby at_115) rfl rfl) ?_
      refine go (fun _ => XT.iconstV X947.here hx rfl (3 : Int32) (hb hby at_116) (by decide)) ?_
      refine go (fun _ => XT.lload X947.here hx rfl (hb hby at_117) rfl) ?_
      show Ends p e below s _ _ _ T947 (mkF m 119 #[iv i0, iv i1, iv i2, iv i3, .val (.long j4), .second, .val (.long j5), .second, iv (3 : Int32), iv xv, iv yv, iv zv, rv a899, .val (.long j4), .second, .val (.long j5), .second, .val (.long (j4 ^^^ (-1 : Int64))), .second, .val (.long (j4 ^^^ j5)), .second, .unset] [(.long (j4 ^^^ j5)), (.int (3 : Int32)), (.ref a938), (.ref a938)])
      obtain ⟨cl949, A949, q949, S949, M949, H949, G949⟩ := id V947
      obtain ⟨T949, h949, X949, e949, W949, s949⟩ := stJ X947 hx hZ e947 A949 (j := (3 : Int32)) (inb_of S949 (by decide)) (g := (mkF m 119 #[iv i0, iv i1, iv i2, iv i3, .val (.long j4), .second, .val (.long j5), .second, iv (3 : Int32), iv xv, iv yv, iv zv, rv a899, .val (.long j4), .second, .val (.long j5), .second, .val (.long (j4 ^^^ (-1 : Int64))), .second, .val (.long (j4 ^^^ j5)), .second, .unset] [(.long (j4 ^^^ j5)), (.int (3 : Int32)), (.ref a938), (.ref a938)])) rfl rfl (hb hby at_119)
      have N949 := Fr.snoc X949 N947 f938
      have O950 : Ext Z.heap h949 := xw O948 W949 f938
      have V949 : Arv Z h949 a938 k938 .long (4 : Int32) [(.long j4), (.long j5), (.long (j4 ^^^ (-1 : Int64))), (.long (j4 ^^^ j5))] (.long 0) := Arv.set A949 q949 S949 M949 H949 G949 rfl W949 3 (by decide) (Nat.le_of_ble_eq_true rfl)
      refine go s949 ?_
      show Ends p e below s _ _ _ T949 (mkF m 120 #[iv i0, iv i1, iv i2, iv i3, .val (.long j4), .second, .val (.long j5), .second, iv (3 : Int32), iv xv, iv yv, iv zv, rv a899, .val (.long j4), .second, .val (.long j5), .second, .val (.long (j4 ^^^ (-1 : Int64))), .second, .val (.long (j4 ^^^ j5)), .second, .unset] [(.ref a938)])
      refine go (fun _ => XS.astore X949.here hx rfl (hb hby at_120) rfl rfl (l' := #[iv i0, iv i1, iv i2, iv i3, .val (.long j4), .second, .val (.long j5), .second, iv (3 : Int32), iv xv, iv yv, iv zv, rv a899, .val (.long j4), .second, .val (.long j5), .second, .val (.long (j4 ^^^ (-1 : Int64))), .second, .val (.long (j4 ^^^ j5)), .second, rv a938]) rfl) ?_
      refine go (fun _ => XS.aload X949.here hx rfl (hb hby at_122) rfl rfl) ?_
      refine go (fun _ => XS.aload X949.here hx rfl (hb hby at_124) rfl rfl) ?_
      show Ends p e below s _ _ _ T949 (mkF m 126 #[iv i0, iv i1, iv i2, iv i3, .val (.long j4), .second, .val (.long j5), .second, iv (3 : Int32), iv xv, iv yv, iv zv, rv a899, .val (.long j4), .second, .val (.long j5), .second, .val (.long (j4 ^^^ (-1 : Int64))), .second, .val (.long (j4 ^^^ j5)), .second, rv a938] [(.ref a938), (.ref a899)])
      have F951 := (Fld.other W949 (Fld.other W947 (Fld.other W945 (Fld.other W943 (Fld.ext E938 PJ0) (Or.inl n939)) (Or.inl n939)) (Or.inl n939)) (Or.inl n939))
      have F952 := (Fld.other W949 (Fld.other W947 (Fld.other W945 (Fld.other W943 (Fld.ext E938 PJ1) (Or.inl n939)) (Or.inl n939)) (Or.inl n939)) (Or.inl n939))
      have F953 := (Fld.other W949 (Fld.other W947 (Fld.other W945 (Fld.other W943 (Fld.ext E938 PJ2) (Or.inl n939)) (Or.inl n939)) (Or.inl n939)) (Or.inl n939))
      have F954 := (Fld.other W949 (Fld.other W947 (Fld.other W945 (Fld.other W943 (Fld.ext E938 PJ3) (Or.inl n939)) (Or.inl n939)) (Or.inl n939)) (Or.inl n939))
      have F955 := (Arv.other (Arv.other (Arv.other (Arv.other (Arv.ext PJ4 E938) W943 n940) W945 n940) W947 n940) W949 n940)
      have F956 := (Arv.other (Arv.other (Arv.other (Arv.other (Arv.ext PJ5 E938) W943 n941) W945 n941) W947 n941) W949 n941)
      have F957 := (Exa.wr W949 (Exa.wr W947 (Exa.wr W945 (Exa.wr W943 (Exa.ext E938 EJ)))))
      have VL958 : Arv Z h949 a938 k938 .long (4 : Int32) (own_b (own_f j4 j5 (j4 ^^^ (-1 : Int64)) (j4 ^^^ j5))) (.long 0) := V949
      refine cVirt X949 hx hZ hown (by rw [hml]; rfl) e949 (hwi hw 60 rfl) (hwi hw 61 rfl) (hwi hw 63 rfl) (hwi hw 62 rfl) (hwi hw 2 rfl) (hwi hw 64 rfl) (notFace_of_selects (args := #[]) (mvT hZ (hwi hw 63 rfl))) a899 F957 [(.ref a938)] [] rfl (rm_add2_0 hw a899 aiJ awJ kiJ kwJ ij0 ij1 wj0 wj1 a938 k938 (own_f j4 j5 (j4 ^^^ (-1 : Int64)) (j4 ^^^ j5)) _ O950 f899 F957 F951 F952 F953 F954 F955 F956 fiJ fwJ n1J n2J n3J VL958 f938 n939 n940 n941 gj0 gj1) (hb hby at_126) rfl (lenOf pd_12 rfl) (by decide) (by decide) (Nat.le_of_ble_eq_true rfl) (by decide) (by decide) ?_
      rintro v959 T959 h959 L959 X959 e959 ⟨rfl, N959, K959, V959⟩
      have N959a := Fr.app N949 N959
      have O960 : Ext Z.heap h959 := xk O950 K959 (allS f938 all0)
      show Ends p e below s _ _ _ T959 (mkF m 129 #[iv i0, iv i1, iv i2, iv i3, .val (.long j4), .second, .val (.long j5), .second, iv (3 : Int32), iv xv, iv yv, iv zv, rv a899, .val (.long j4), .second, .val (.long j5), .second, .val (.long (j4 ^^^ (-1 : Int64))), .second, .val (.long (j4 ^^^ j5)), .second, rv a938] [])
      refine go (fun _ => XS.aload X959.here hx rfl (hb hby at_129) rfl rfl) ?_
      refine go (fun _ => XT.iconstV X959.here hx rfl (0 : Int32) (hb hby at_131) (by decide)) ?_
      show Ends p e below s _ _ _ T959 (mkF m 132 #[iv i0, iv i1, iv i2, iv i3, .val (.long j4), .second, .val (.long j5), .second, iv (3 : Int32), iv xv, iv yv, iv zv, rv a899, .val (.long j4), .second, .val (.long j5), .second, .val (.long (j4 ^^^ (-1 : Int64))), .second, .val (.long (j4 ^^^ j5)), .second, rv a938] [(.int (0 : Int32)), (.ref a938)])
      obtain ⟨cl961, A961, -, S961, M961, H961, -⟩ := id V959
      have B961 := inb_of S961 (j := (0 : Int32)) (by decide)
      refine go (fun _ => X959.laload hx (j := (0 : Int32)) (v := (.long ((own_add (own_add (own_f j4 j5 (j4 ^^^ (-1 : Int64)) (j4 ^^^ j5)) ij0.toNatClampNeg wj0) ij1.toNatClampNeg wj1) 0))) (by rw [e959]; exact A961.1) (State.isArrayOf_alike hZ.alike A961.2.1) A961.2.2 B961 (H961.at B961 rfl) (g := (mkF m 132 #[iv i0, iv i1, iv i2, iv i3, .val (.long j4), .second, .val (.long j5), .second, iv (3 : Int32), iv xv, iv yv, iv zv, rv a899, .val (.long j4), .second, .val (.long j5), .second, .val (.long (j4 ^^^ (-1 : Int64))), .second, .val (.long (j4 ^^^ j5)), .second, rv a938] [(.int (0 : Int32)), (.ref a938)])) rfl rfl (hb hby at_132) _) ?_
      show Ends p e below s _ _ _ T959 (mkF m 133 #[iv i0, iv i1, iv i2, iv i3, .val (.long j4), .second, .val (.long j5), .second, iv (3 : Int32), iv xv, iv yv, iv zv, rv a899, .val (.long j4), .second, .val (.long j5), .second, .val (.long (j4 ^^^ (-1 : Int64))), .second, .val (.long (j4 ^^^ j5)), .second, rv a938] [(.long ((own_add (own_add (own_f j4 j5 (j4 ^^^ (-1 : Int64)) (j4 ^^^ j5)) ij0.toNatClampNeg wj0) ij1.toNatClampNeg wj1) 0))])
      refine go (fun _ => XT.iconstV X959.here hx rfl (0 : Int32) (hb hby at_133) (by decide)) ?_
      refine go (fun _ => XT.lload X959.here hx rfl (hb hby at_134) rfl) ?_
      refine go (fun _ => XS.iload X959.here hx rfl (hb hby at_136) rfl) ?_
      refine go (fun _ => XS.iload X959.here hx rfl (hb hby at_138) rfl) ?_
      refine go (fun _ => XS.iload X959.here hx rfl (hb hby at_140) rfl) ?_
      refine go (fun _ => XS.iload X959.here hx rfl (hb hby at_142) rfl) ?_
      show Ends p e below s _ _ _ T959 (mkF m 144 #[iv i0, iv i1, iv i2, iv i3, .val (.long j4), .second, .val (.long j5), .second, iv (3 : Int32), iv xv, iv yv, iv zv, rv a899, .val (.long j4), .second, .val (.long j5), .second, .val (.long (j4 ^^^ (-1 : Int64))), .second, .val (.long (j4 ^^^ j5)), .second, rv a938] [(.int zv), (.int yv), (.int xv), (.int (3 : Int32)), (.long j4), (.int (0 : Int32)), (.long ((own_add (own_add (own_f j4 j5 (j4 ^^^ (-1 : Int64)) (j4 ^^^ j5)) ij0.toNatClampNeg wj0) ij1.toNatClampNeg wj1) 0))])
      refine cStat X959 hx hZ hown (by rw [hml]; rfl) e959 (hwi hw 65 rfl) (hwi hw 66 rfl) (hwi hw 67 rfl) (hwi hw 68 rfl) [(.int (0 : Int32)), (.long j4), (.int (3 : Int32)), (.int xv), (.int yv), (.int zv)] [(.long ((own_add (own_add (own_f j4 j5 (j4 ^^^ (-1 : Int64)) (j4 ^^^ j5)) ij0.toNatClampNeg wj0) ij1.toNatClampNeg wj1) 0))] rfl (rm_exp3 hw (0 : Int32) j4 xv yv zv _) (hb hby at_144) rfl (lenOf pd_13 rfl) (by decide) (by decide) (Nat.le_of_ble_eq_true rfl) (by decide) (by decide) ?_
      rintro v962 T962 h962 L962 X962 e962 ⟨rfl, N962, rfl⟩
      have N962a := Fr.app N959a N962
      show Ends p e below s _ _ _ T962 (mkF m 147 #[iv i0, iv i1, iv i2, iv i3, .val (.long j4), .second, .val (.long j5), .second, iv (3 : Int32), iv xv, iv yv, iv zv, rv a899, .val (.long j4), .second, .val (.long j5), .second, .val (.long (j4 ^^^ (-1 : Int64))), .second, .val (.long (j4 ^^^ j5)), .second, rv a938] [(.long (own_acc (XT.ushr zv (6 : Int32)) (0 : Int32) (own_acc (XT.ushr yv (6 : Int32)) (0 : Int32) (own_acc (XT.ushr xv (6 : Int32)) (0 : Int32) j4 ((1 : Int64) <<< (xv.toInt64 &&& 63))) ((1 : Int64) <<< (yv.toInt64 &&& 63))) ((1 : Int64) <<< (zv.toInt64 &&& 63)))), (.long ((own_add (own_add (own_f j4 j5 (j4 ^^^ (-1 : Int64)) (j4 ^^^ j5)) ij0.toNatClampNeg wj0) ij1.toNatClampNeg wj1) 0))])
      refine go (fun _ => XT.lcmp X962.here hx rfl (hb hby at_147) rfl) ?_
      show Ends p e below s _ _ _ T962 (mkF m 148 #[iv i0, iv i1, iv i2, iv i3, .val (.long j4), .second, .val (.long j5), .second, iv (3 : Int32), iv xv, iv yv, iv zv, rv a899, .val (.long j4), .second, .val (.long j5), .second, .val (.long (j4 ^^^ (-1 : Int64))), .second, .val (.long (j4 ^^^ j5)), .second, rv a938] [(.int (XT.cmpL ((own_add (own_add (own_f j4 j5 (j4 ^^^ (-1 : Int64)) (j4 ^^^ j5)) ij0.toNatClampNeg wj0) ij1.toNatClampNeg wj1) 0) (own_acc (XT.ushr zv (6 : Int32)) (0 : Int32) (own_acc (XT.ushr yv (6 : Int32)) (0 : Int32) (own_acc (XT.ushr xv (6 : Int32)) (0 : Int32) j4 ((1 : Int64) <<< (xv.toInt64 &&& 63))) ((1 : Int64) <<< (yv.toInt64 &&& 63))) ((1 : Int64) <<< (zv.toInt64 &&& 63)))))])
      refine go (fun _ => XS.ifNo X962.here hx rfl (hb hby at_148) rfl (XT.ll_ne_f qj0)) ?_
      show Ends p e below s _ _ _ T962 (mkF m 151 #[iv i0, iv i1, iv i2, iv i3, .val (.long j4), .second, .val (.long j5), .second, iv (3 : Int32), iv xv, iv yv, iv zv, rv a899, .val (.long j4), .second, .val (.long j5), .second, .val (.long (j4 ^^^ (-1 : Int64))), .second, .val (.long (j4 ^^^ j5)), .second, rv a938] [])
      refine go (fun _ => XS.aload X962.here hx rfl (hb hby at_151) rfl rfl) ?_
      refine go (fun _ => XT.iconstV X962.here hx rfl (1 : Int32) (hb hby at_153) (by decide)) ?_
      show Ends p e below s _ _ _ T962 (mkF m 154 #[iv i0, iv i1, iv i2, iv i3, .val (.long j4), .second, .val (.long j5), .second, iv (3 : Int32), iv xv, iv yv, iv zv, rv a899, .val (.long j4), .second, .val (.long j5), .second, .val (.long (j4 ^^^ (-1 : Int64))), .second, .val (.long (j4 ^^^ j5)), .second, rv a938] [(.int (1 : Int32)), (.ref a938)])
      obtain ⟨cl963, A963, -, S963, M963, H963, -⟩ := id V959
      have B963 := inb_of S963 (j := (1 : Int32)) (by decide)
      refine go (fun _ => X962.laload hx (j := (1 : Int32)) (v := (.long ((own_add (own_add (own_f j4 j5 (j4 ^^^ (-1 : Int64)) (j4 ^^^ j5)) ij0.toNatClampNeg wj0) ij1.toNatClampNeg wj1) 1))) (by rw [e962]; exact A963.1) (State.isArrayOf_alike hZ.alike A963.2.1) A963.2.2 B963 (H963.at B963 rfl) (g := (mkF m 154 #[iv i0, iv i1, iv i2, iv i3, .val (.long j4), .second, .val (.long j5), .second, iv (3 : Int32), iv xv, iv yv, iv zv, rv a899, .val (.long j4), .second, .val (.long j5), .second, .val (.long (j4 ^^^ (-1 : Int64))), .second, .val (.long (j4 ^^^ j5)), .second, rv a938] [(.int (1 : Int32)), (.ref a938)])) rfl rfl (hb hby at_154) _) ?_
      show Ends p e below s _ _ _ T962 (mkF m 155 #[iv i0, iv i1, iv i2, iv i3, .val (.long j4), .second, .val (.long j5), .second, iv (3 : Int32), iv xv, iv yv, iv zv, rv a899, .val (.long j4), .second, .val (.long j5), .second, .val (.long (j4 ^^^ (-1 : Int64))), .second, .val (.long (j4 ^^^ j5)), .second, rv a938] [(.long ((own_add (own_add (own_f j4 j5 (j4 ^^^ (-1 : Int64)) (j4 ^^^ j5)) ij0.toNatClampNeg wj0) ij1.toNatClampNeg wj1) 1))])
      refine go (fun _ => XT.iconstV X962.here hx rfl (1 : Int32) (hb hby at_155) (by decide)) ?_
      refine go (fun _ => XT.lload X962.here hx rfl (hb hby at_156) rfl) ?_
      refine go (fun _ => XS.iload X962.here hx rfl (hb hby at_158) rfl) ?_
      refine go (fun _ => XS.iload X962.here hx rfl (hb hby at_160) rfl) ?_
      refine go (fun _ => XS.iload X962.here hx rfl (hb hby at_162) rfl) ?_
      refine go (fun _ => XS.iload X962.here hx rfl (hb hby at_164) rfl) ?_
      show Ends p e below s _ _ _ T962 (mkF m 166 #[iv i0, iv i1, iv i2, iv i3, .val (.long j4), .second, .val (.long j5), .second, iv (3 : Int32), iv xv, iv yv, iv zv, rv a899, .val (.long j4), .second, .val (.long j5), .second, .val (.long (j4 ^^^ (-1 : Int64))), .second, .val (.long (j4 ^^^ j5)), .second, rv a938] [(.int zv), (.int yv), (.int xv), (.int (3 : Int32)), (.long j5), (.int (1 : Int32)), (.long ((own_add (own_add (own_f j4 j5 (j4 ^^^ (-1 : Int64)) (j4 ^^^ j5)) ij0.toNatClampNeg wj0) ij1.toNatClampNeg wj1) 1))])
      refine cStat X962 hx hZ hown (by rw [hml]; rfl) e962 (hwi hw 65 rfl) (hwi hw 66 rfl) (hwi hw 67 rfl) (hwi hw 68 rfl) [(.int (1 : Int32)), (.long j5), (.int (3 : Int32)), (.int xv), (.int yv), (.int zv)] [(.long ((own_add (own_add (own_f j4 j5 (j4 ^^^ (-1 : Int64)) (j4 ^^^ j5)) ij0.toNatClampNeg wj0) ij1.toNatClampNeg wj1) 1))] rfl (rm_exp3 hw (1 : Int32) j5 xv yv zv _) (hb hby at_166) rfl (lenOf pd_13 rfl) (by decide) (by decide) (Nat.le_of_ble_eq_true rfl) (by decide) (by decide) ?_
      rintro v964 T964 h964 L964 X964 e964 ⟨rfl, N964, rfl⟩
      have N964a := Fr.app N962a N964
      show Ends p e below s _ _ _ T964 (mkF m 169 #[iv i0, iv i1, iv i2, iv i3, .val (.long j4), .second, .val (.long j5), .second, iv (3 : Int32), iv xv, iv yv, iv zv, rv a899, .val (.long j4), .second, .val (.long j5), .second, .val (.long (j4 ^^^ (-1 : Int64))), .second, .val (.long (j4 ^^^ j5)), .second, rv a938] [(.long (own_acc (XT.ushr zv (6 : Int32)) (1 : Int32) (own_acc (XT.ushr yv (6 : Int32)) (1 : Int32) (own_acc (XT.ushr xv (6 : Int32)) (1 : Int32) j5 ((1 : Int64) <<< (xv.toInt64 &&& 63))) ((1 : Int64) <<< (yv.toInt64 &&& 63))) ((1 : Int64) <<< (zv.toInt64 &&& 63)))), (.long ((own_add (own_add (own_f j4 j5 (j4 ^^^ (-1 : Int64)) (j4 ^^^ j5)) ij0.toNatClampNeg wj0) ij1.toNatClampNeg wj1) 1))])
      refine go (fun _ => XT.lcmp X964.here hx rfl (hb hby at_169) rfl) ?_
      show Ends p e below s _ _ _ T964 (mkF m 170 #[iv i0, iv i1, iv i2, iv i3, .val (.long j4), .second, .val (.long j5), .second, iv (3 : Int32), iv xv, iv yv, iv zv, rv a899, .val (.long j4), .second, .val (.long j5), .second, .val (.long (j4 ^^^ (-1 : Int64))), .second, .val (.long (j4 ^^^ j5)), .second, rv a938] [(.int (XT.cmpL ((own_add (own_add (own_f j4 j5 (j4 ^^^ (-1 : Int64)) (j4 ^^^ j5)) ij0.toNatClampNeg wj0) ij1.toNatClampNeg wj1) 1) (own_acc (XT.ushr zv (6 : Int32)) (1 : Int32) (own_acc (XT.ushr yv (6 : Int32)) (1 : Int32) (own_acc (XT.ushr xv (6 : Int32)) (1 : Int32) j5 ((1 : Int64) <<< (xv.toInt64 &&& 63))) ((1 : Int64) <<< (yv.toInt64 &&& 63))) ((1 : Int64) <<< (zv.toInt64 &&& 63)))))])
      refine go (fun _ => XS.ifNo X964.here hx rfl (hb hby at_170) rfl (XT.ll_ne_f qj1)) ?_
      show Ends p e below s _ _ _ T964 (mkF m 173 #[iv i0, iv i1, iv i2, iv i3, .val (.long j4), .second, .val (.long j5), .second, iv (3 : Int32), iv xv, iv yv, iv zv, rv a899, .val (.long j4), .second, .val (.long j5), .second, .val (.long (j4 ^^^ (-1 : Int64))), .second, .val (.long (j4 ^^^ j5)), .second, rv a938] [])
      refine go (fun _ => XS.aload X964.here hx rfl (hb hby at_173) rfl rfl) ?_
      refine go (fun _ => XT.iconstV X964.here hx rfl (2 : Int32) (hb hby at_175) (by decide)) ?_
      show Ends p e below s _ _ _ T964 (mkF m 176 #[iv i0, iv i1, iv i2, iv i3, .val (.long j4), .second, .val (.long j5), .second, iv (3 : Int32), iv xv, iv yv, iv zv, rv a899, .val (.long j4), .second, .val (.long j5), .second, .val (.long (j4 ^^^ (-1 : Int64))), .second, .val (.long (j4 ^^^ j5)), .second, rv a938] [(.int (2 : Int32)), (.ref a938)])
      obtain ⟨cl965, A965, -, S965, M965, H965, -⟩ := id V959
      have B965 := inb_of S965 (j := (2 : Int32)) (by decide)
      refine go (fun _ => X964.laload hx (j := (2 : Int32)) (v := (.long ((own_add (own_add (own_f j4 j5 (j4 ^^^ (-1 : Int64)) (j4 ^^^ j5)) ij0.toNatClampNeg wj0) ij1.toNatClampNeg wj1) 2))) (by rw [e964]; exact A965.1) (State.isArrayOf_alike hZ.alike A965.2.1) A965.2.2 B965 (H965.at B965 rfl) (g := (mkF m 176 #[iv i0, iv i1, iv i2, iv i3, .val (.long j4), .second, .val (.long j5), .second, iv (3 : Int32), iv xv, iv yv, iv zv, rv a899, .val (.long j4), .second, .val (.long j5), .second, .val (.long (j4 ^^^ (-1 : Int64))), .second, .val (.long (j4 ^^^ j5)), .second, rv a938] [(.int (2 : Int32)), (.ref a938)])) rfl rfl (hb hby at_176) _) ?_
      show Ends p e below s _ _ _ T964 (mkF m 177 #[iv i0, iv i1, iv i2, iv i3, .val (.long j4), .second, .val (.long j5), .second, iv (3 : Int32), iv xv, iv yv, iv zv, rv a899, .val (.long j4), .second, .val (.long j5), .second, .val (.long (j4 ^^^ (-1 : Int64))), .second, .val (.long (j4 ^^^ j5)), .second, rv a938] [(.long ((own_add (own_add (own_f j4 j5 (j4 ^^^ (-1 : Int64)) (j4 ^^^ j5)) ij0.toNatClampNeg wj0) ij1.toNatClampNeg wj1) 2))])
      refine go (fun _ => XT.iconstV X964.here hx rfl (2 : Int32) (hb hby at_177) (by decide)) ?_
      refine go (fun _ => XT.lload X964.here hx rfl (hb hby at_178) rfl) ?_
      refine go (fun _ => XS.iload X964.here hx rfl (hb hby at_180) rfl) ?_
      refine go (fun _ => XS.iload X964.here hx rfl (hb hby at_182) rfl) ?_
      refine go (fun _ => XS.iload X964.here hx rfl (hb hby at_184) rfl) ?_
      refine go (fun _ => XS.iload X964.here hx rfl (hb hby at_186) rfl) ?_
      show Ends p e below s _ _ _ T964 (mkF m 188 #[iv i0, iv i1, iv i2, iv i3, .val (.long j4), .second, .val (.long j5), .second, iv (3 : Int32), iv xv, iv yv, iv zv, rv a899, .val (.long j4), .second, .val (.long j5), .second, .val (.long (j4 ^^^ (-1 : Int64))), .second, .val (.long (j4 ^^^ j5)), .second, rv a938] [(.int zv), (.int yv), (.int xv), (.int (3 : Int32)), (.long (j4 ^^^ (-1 : Int64))), (.int (2 : Int32)), (.long ((own_add (own_add (own_f j4 j5 (j4 ^^^ (-1 : Int64)) (j4 ^^^ j5)) ij0.toNatClampNeg wj0) ij1.toNatClampNeg wj1) 2))])
      refine cStat X964 hx hZ hown (by rw [hml]; rfl) e964 (hwi hw 65 rfl) (hwi hw 66 rfl) (hwi hw 67 rfl) (hwi hw 68 rfl) [(.int (2 : Int32)), (.long (j4 ^^^ (-1 : Int64))), (.int (3 : Int32)), (.int xv), (.int yv), (.int zv)] [(.long ((own_add (own_add (own_f j4 j5 (j4 ^^^ (-1 : Int64)) (j4 ^^^ j5)) ij0.toNatClampNeg wj0) ij1.toNatClampNeg wj1) 2))] rfl (rm_exp3 hw (2 : Int32) (j4 ^^^ (-1 : Int64)) xv yv zv _) (hb hby at_188) rfl (lenOf pd_13 rfl) (by decide) (by decide) (Nat.le_of_ble_eq_true rfl) (by decide) (by decide) ?_
      rintro v966 T966 h966 L966 X966 e966 ⟨rfl, N966, rfl⟩
      have N966a := Fr.app N964a N966
      show Ends p e below s _ _ _ T966 (mkF m 191 #[iv i0, iv i1, iv i2, iv i3, .val (.long j4), .second, .val (.long j5), .second, iv (3 : Int32), iv xv, iv yv, iv zv, rv a899, .val (.long j4), .second, .val (.long j5), .second, .val (.long (j4 ^^^ (-1 : Int64))), .second, .val (.long (j4 ^^^ j5)), .second, rv a938] [(.long (own_acc (XT.ushr zv (6 : Int32)) (2 : Int32) (own_acc (XT.ushr yv (6 : Int32)) (2 : Int32) (own_acc (XT.ushr xv (6 : Int32)) (2 : Int32) (j4 ^^^ (-1 : Int64)) ((1 : Int64) <<< (xv.toInt64 &&& 63))) ((1 : Int64) <<< (yv.toInt64 &&& 63))) ((1 : Int64) <<< (zv.toInt64 &&& 63)))), (.long ((own_add (own_add (own_f j4 j5 (j4 ^^^ (-1 : Int64)) (j4 ^^^ j5)) ij0.toNatClampNeg wj0) ij1.toNatClampNeg wj1) 2))])
      refine go (fun _ => XT.lcmp X966.here hx rfl (hb hby at_191) rfl) ?_
      show Ends p e below s _ _ _ T966 (mkF m 192 #[iv i0, iv i1, iv i2, iv i3, .val (.long j4), .second, .val (.long j5), .second, iv (3 : Int32), iv xv, iv yv, iv zv, rv a899, .val (.long j4), .second, .val (.long j5), .second, .val (.long (j4 ^^^ (-1 : Int64))), .second, .val (.long (j4 ^^^ j5)), .second, rv a938] [(.int (XT.cmpL ((own_add (own_add (own_f j4 j5 (j4 ^^^ (-1 : Int64)) (j4 ^^^ j5)) ij0.toNatClampNeg wj0) ij1.toNatClampNeg wj1) 2) (own_acc (XT.ushr zv (6 : Int32)) (2 : Int32) (own_acc (XT.ushr yv (6 : Int32)) (2 : Int32) (own_acc (XT.ushr xv (6 : Int32)) (2 : Int32) (j4 ^^^ (-1 : Int64)) ((1 : Int64) <<< (xv.toInt64 &&& 63))) ((1 : Int64) <<< (yv.toInt64 &&& 63))) ((1 : Int64) <<< (zv.toInt64 &&& 63)))))])
      refine go (fun _ => XS.ifNo X966.here hx rfl (hb hby at_192) rfl (XT.ll_ne_f qj2)) ?_
      show Ends p e below s _ _ _ T966 (mkF m 195 #[iv i0, iv i1, iv i2, iv i3, .val (.long j4), .second, .val (.long j5), .second, iv (3 : Int32), iv xv, iv yv, iv zv, rv a899, .val (.long j4), .second, .val (.long j5), .second, .val (.long (j4 ^^^ (-1 : Int64))), .second, .val (.long (j4 ^^^ j5)), .second, rv a938] [])
      refine go (fun _ => XS.aload X966.here hx rfl (hb hby at_195) rfl rfl) ?_
      refine go (fun _ => XT.iconstV X966.here hx rfl (3 : Int32) (hb hby at_197) (by decide)) ?_
      show Ends p e below s _ _ _ T966 (mkF m 198 #[iv i0, iv i1, iv i2, iv i3, .val (.long j4), .second, .val (.long j5), .second, iv (3 : Int32), iv xv, iv yv, iv zv, rv a899, .val (.long j4), .second, .val (.long j5), .second, .val (.long (j4 ^^^ (-1 : Int64))), .second, .val (.long (j4 ^^^ j5)), .second, rv a938] [(.int (3 : Int32)), (.ref a938)])
      obtain ⟨cl967, A967, -, S967, M967, H967, -⟩ := id V959
      have B967 := inb_of S967 (j := (3 : Int32)) (by decide)
      refine go (fun _ => X966.laload hx (j := (3 : Int32)) (v := (.long ((own_add (own_add (own_f j4 j5 (j4 ^^^ (-1 : Int64)) (j4 ^^^ j5)) ij0.toNatClampNeg wj0) ij1.toNatClampNeg wj1) 3))) (by rw [e966]; exact A967.1) (State.isArrayOf_alike hZ.alike A967.2.1) A967.2.2 B967 (H967.at B967 rfl) (g := (mkF m 198 #[iv i0, iv i1, iv i2, iv i3, .val (.long j4), .second, .val (.long j5), .second, iv (3 : Int32), iv xv, iv yv, iv zv, rv a899, .val (.long j4), .second, .val (.long j5), .second, .val (.long (j4 ^^^ (-1 : Int64))), .second, .val (.long (j4 ^^^ j5)), .second, rv a938] [(.int (3 : Int32)), (.ref a938)])) rfl rfl (hb hby at_198) _) ?_
      show Ends p e below s _ _ _ T966 (mkF m 199 #[iv i0, iv i1, iv i2, iv i3, .val (.long j4), .second, .val (.long j5), .second, iv (3 : Int32), iv xv, iv yv, iv zv, rv a899, .val (.long j4), .second, .val (.long j5), .second, .val (.long (j4 ^^^ (-1 : Int64))), .second, .val (.long (j4 ^^^ j5)), .second, rv a938] [(.long ((own_add (own_add (own_f j4 j5 (j4 ^^^ (-1 : Int64)) (j4 ^^^ j5)) ij0.toNatClampNeg wj0) ij1.toNatClampNeg wj1) 3))])
      refine go (fun _ => XT.iconstV X966.here hx rfl (3 : Int32) (hb hby at_199) (by decide)) ?_
      refine go (fun _ => XT.lload X966.here hx rfl (hb hby at_200) rfl) ?_
      refine go (fun _ => XS.iload X966.here hx rfl (hb hby at_202) rfl) ?_
      refine go (fun _ => XS.iload X966.here hx rfl (hb hby at_204) rfl) ?_
      refine go (fun _ => XS.iload X966.here hx rfl (hb hby at_206) rfl) ?_
      refine go (fun _ => XS.iload X966.here hx rfl (hb hby at_208) rfl) ?_
      show Ends p e below s _ _ _ T966 (mkF m 210 #[iv i0, iv i1, iv i2, iv i3, .val (.long j4), .second, .val (.long j5), .second, iv (3 : Int32), iv xv, iv yv, iv zv, rv a899, .val (.long j4), .second, .val (.long j5), .second, .val (.long (j4 ^^^ (-1 : Int64))), .second, .val (.long (j4 ^^^ j5)), .second, rv a938] [(.int zv), (.int yv), (.int xv), (.int (3 : Int32)), (.long (j4 ^^^ j5)), (.int (3 : Int32)), (.long ((own_add (own_add (own_f j4 j5 (j4 ^^^ (-1 : Int64)) (j4 ^^^ j5)) ij0.toNatClampNeg wj0) ij1.toNatClampNeg wj1) 3))])
      refine cStat X966 hx hZ hown (by rw [hml]; rfl) e966 (hwi hw 65 rfl) (hwi hw 66 rfl) (hwi hw 67 rfl) (hwi hw 68 rfl) [(.int (3 : Int32)), (.long (j4 ^^^ j5)), (.int (3 : Int32)), (.int xv), (.int yv), (.int zv)] [(.long ((own_add (own_add (own_f j4 j5 (j4 ^^^ (-1 : Int64)) (j4 ^^^ j5)) ij0.toNatClampNeg wj0) ij1.toNatClampNeg wj1) 3))] rfl (rm_exp3 hw (3 : Int32) (j4 ^^^ j5) xv yv zv _) (hb hby at_210) rfl (lenOf pd_13 rfl) (by decide) (by decide) (Nat.le_of_ble_eq_true rfl) (by decide) (by decide) ?_
      rintro v968 T968 h968 L968 X968 e968 ⟨rfl, N968, rfl⟩
      have N968a := Fr.app N966a N968
      show Ends p e below s _ _ _ T968 (mkF m 213 #[iv i0, iv i1, iv i2, iv i3, .val (.long j4), .second, .val (.long j5), .second, iv (3 : Int32), iv xv, iv yv, iv zv, rv a899, .val (.long j4), .second, .val (.long j5), .second, .val (.long (j4 ^^^ (-1 : Int64))), .second, .val (.long (j4 ^^^ j5)), .second, rv a938] [(.long (own_acc (XT.ushr zv (6 : Int32)) (3 : Int32) (own_acc (XT.ushr yv (6 : Int32)) (3 : Int32) (own_acc (XT.ushr xv (6 : Int32)) (3 : Int32) (j4 ^^^ j5) ((1 : Int64) <<< (xv.toInt64 &&& 63))) ((1 : Int64) <<< (yv.toInt64 &&& 63))) ((1 : Int64) <<< (zv.toInt64 &&& 63)))), (.long ((own_add (own_add (own_f j4 j5 (j4 ^^^ (-1 : Int64)) (j4 ^^^ j5)) ij0.toNatClampNeg wj0) ij1.toNatClampNeg wj1) 3))])
      refine go (fun _ => XT.lcmp X968.here hx rfl (hb hby at_213) rfl) ?_
      show Ends p e below s _ _ _ T968 (mkF m 214 #[iv i0, iv i1, iv i2, iv i3, .val (.long j4), .second, .val (.long j5), .second, iv (3 : Int32), iv xv, iv yv, iv zv, rv a899, .val (.long j4), .second, .val (.long j5), .second, .val (.long (j4 ^^^ (-1 : Int64))), .second, .val (.long (j4 ^^^ j5)), .second, rv a938] [(.int (XT.cmpL ((own_add (own_add (own_f j4 j5 (j4 ^^^ (-1 : Int64)) (j4 ^^^ j5)) ij0.toNatClampNeg wj0) ij1.toNatClampNeg wj1) 3) (own_acc (XT.ushr zv (6 : Int32)) (3 : Int32) (own_acc (XT.ushr yv (6 : Int32)) (3 : Int32) (own_acc (XT.ushr xv (6 : Int32)) (3 : Int32) (j4 ^^^ j5) ((1 : Int64) <<< (xv.toInt64 &&& 63))) ((1 : Int64) <<< (yv.toInt64 &&& 63))) ((1 : Int64) <<< (zv.toInt64 &&& 63)))))])
      refine go (fun _ => XS.ifNo X968.here hx rfl (hb hby at_214) rfl (XT.ll_ne_f qj3)) ?_
      show Ends p e below s _ _ _ T968 (mkF m 217 #[iv i0, iv i1, iv i2, iv i3, .val (.long j4), .second, .val (.long j5), .second, iv (3 : Int32), iv xv, iv yv, iv zv, rv a899, .val (.long j4), .second, .val (.long j5), .second, .val (.long (j4 ^^^ (-1 : Int64))), .second, .val (.long (j4 ^^^ j5)), .second, rv a938] [])
      refine go (fun _ => XT.iconstV X968.here hx rfl (1 : Int32) (hb hby at_217) (by decide)) ?_
      refine go (fun _ => XS.goto X968.here hx rfl (pc0 := 218) (pc' := 222) rfl (hb hby at_218) (by decide) (by decide)) ?_
      show Ends p e below s _ _ _ T968 (mkF m 222 #[iv i0, iv i1, iv i2, iv i3, .val (.long j4), .second, .val (.long j5), .second, iv (3 : Int32), iv xv, iv yv, iv zv, rv a899, .val (.long j4), .second, .val (.long j5), .second, .val (.long (j4 ^^^ (-1 : Int64))), .second, .val (.long (j4 ^^^ j5)), .second, rv a938] [(.int (1 : Int32))])
      exact endN X968 hx hlk hret (by simp) (hb hby at_222) e968 ⟨rfl, N968a⟩ (by decide) (by decide)
    have J3_2_1 : ∀ (TJ : State) (hJ : Heap) (LJ : List Loc) (aiJ awJ : Addr) (kiJ kwJ : ClassId) (ij0 ij1 : Int32) (wj0 wj1 : Int64) (XJ : Stand p l e room_1 s m #[(.int i0), (.int i1), (.int i2), (.int i3), (.long j4), (.long j5)] below meth c TJ LJ 8 64) (eJ : TJ.heap = hJ) (OJ : Ext Z.heap hJ) (NJ : Fr Z.heap.size LJ) (EJ : Exa Z hJ a899 "com/example/libtbox/libtbox/core/SparseBitSet") (PJ0 : Fld Z hJ a899 "com/example/libtbox/libtbox/core/SparseBitSet" "indices" "[I" (.ref aiJ)) (PJ1 : Fld Z hJ a899 "com/example/libtbox/libtbox/core/SparseBitSet" "words" "[J" (.ref awJ)) (PJ2 : Fld Z hJ a899 "com/example/libtbox/libtbox/core/SparseBitSet" "count" "I" (.int (2 : Int32))) (PJ3 : Fld Z hJ a899 "com/example/libtbox/libtbox/core/SparseBitSet" "lastFound" "I" (.int (1 : Int32))) (PJ4 : Arv Z hJ aiJ kiJ .int (2 : Int32) [(.int ij0), (.int ij1)] (.int 0)) (PJ5 : Arv Z hJ awJ kwJ .long (2 : Int32) [(.long wj0), (.long wj1)] (.long 0)) (fiJ : Z.heap.size ≤ aiJ) (fwJ : Z.heap.size ≤ awJ) (n1J : a899 ≠ aiJ) (n2J : a899 ≠ awJ) (n3J : aiJ ≠ awJ) (gj0 : ¬ ij0 < 0 ∧ ij0 < 4) (gj1 : ¬ ij1 < 0 ∧ ij1 < 4) (qj0 : ((own_add (own_add (own_f j4 j5 (j4 ^^^ (-1 : Int64)) (j4 ^^^ j5)) ij0.toNatClampNeg wj0) ij1.toNatClampNeg wj1) 0) = (own_acc (XT.ushr zv (6 : Int32)) (0 : Int32) (own_acc (XT.ushr yv (6 : Int32)) (0 : Int32) (own_acc (XT.ushr xv (6 : Int32)) (0 : Int32) j4 ((1 : Int64) <<< (xv.toInt64 &&& 63))) ((1 : Int64) <<< (yv.toInt64 &&& 63))) ((1 : Int64) <<< (zv.toInt64 &&& 63)))) (qj1 : ((own_add (own_add (own_f j4 j5 (j4 ^^^ (-1 : Int64)) (j4 ^^^ j5)) ij0.toNatClampNeg wj0) ij1.toNatClampNeg wj1) 1) = (own_acc (XT.ushr zv (6 : Int32)) (1 : Int32) (own_acc (XT.ushr yv (6 : Int32)) (1 : Int32) (own_acc (XT.ushr xv (6 : Int32)) (1 : Int32) j5 ((1 : Int64) <<< (xv.toInt64 &&& 63))) ((1 : Int64) <<< (yv.toInt64 &&& 63))) ((1 : Int64) <<< (zv.toInt64 &&& 63)))) (qj2 : ((own_add (own_add (own_f j4 j5 (j4 ^^^ (-1 : Int64)) (j4 ^^^ j5)) ij0.toNatClampNeg wj0) ij1.toNatClampNeg wj1) 2) = (own_acc (XT.ushr zv (6 : Int32)) (2 : Int32) (own_acc (XT.ushr yv (6 : Int32)) (2 : Int32) (own_acc (XT.ushr xv (6 : Int32)) (2 : Int32) (j4 ^^^ (-1 : Int64)) ((1 : Int64) <<< (xv.toInt64 &&& 63))) ((1 : Int64) <<< (yv.toInt64 &&& 63))) ((1 : Int64) <<< (zv.toInt64 &&& 63)))) (qj3 : ((own_add (own_add (own_f j4 j5 (j4 ^^^ (-1 : Int64)) (j4 ^^^ j5)) ij0.toNatClampNeg wj0) ij1.toNatClampNeg wj1) 3) = (own_acc (XT.ushr zv (6 : Int32)) (3 : Int32) (own_acc (XT.ushr yv (6 : Int32)) (3 : Int32) (own_acc (XT.ushr xv (6 : Int32)) (3 : Int32) (j4 ^^^ j5) ((1 : Int64) <<< (xv.toInt64 &&& 63))) ((1 : Int64) <<< (yv.toInt64 &&& 63))) ((1 : Int64) <<< (zv.toInt64 &&& 63)))), Ends p e below s (fun v h L => v = some (.int 1) ∧ Fr Z.heap.size L) room_1.cells room_1.slots TJ (mkF m 74 #[iv i0, iv i1, iv i2, iv i3, .val (.long j4), .second, .val (.long j5), .second, iv (3 : Int32), iv xv, iv yv, iv zv, rv a899, .unset, .unset, .unset, .unset, .unset, .unset, .unset, .unset, .unset] []) := by
      intro TJ hJ LJ aiJ awJ kiJ kwJ ij0 ij1 wj0 wj1 XJ eJ OJ NJ EJ PJ0 PJ1 PJ2 PJ3 PJ4 PJ5 fiJ fwJ n1J n2J n3J gj0 gj1 qj0 qj1 qj2 qj3
      refine go (fun _ => XT.lload XJ.here hx rfl (hb hby at_74) rfl) ?_
      refine go (fun _ => XT.lstore XJ.here hx rfl (hb hby at_76) rfl (l' := #[iv i0, iv i1, iv i2, iv i3, .val (.long j4), .second, .val (.long j5), .second, iv (3 : Int32), iv xv, iv yv, iv zv, rv a899, .val (.long j4), .second, .unset, .unset, .unset, .unset, .unset, .unset, .unset]) rfl) ?_
      refine go (fun _ => XT.lload XJ.here hx rfl (hb hby at_78) rfl) ?_
      refine go (fun _ => XT.lstore XJ.here hx rfl (hb hby at_80) rfl (l' := #[iv i0, iv i1, iv i2, iv i3, .val (.long j4), .second, .val (.long j5), .second, iv (3 : Int32), iv xv, iv yv, iv zv, rv a899, .val (.long j4), .second, .val (.long j5), .second, .unset, .unset, .unset, .unset, .unset]) rfl) ?_
      refine go (fun _ => XT.lload XJ.here hx rfl (hb hby at_82) rfl) ?_
      show Ends p e below s _ _ _ TJ (mkF m 84 #[iv i0, iv i1, iv i2, iv i3, .val (.long j4), .second, .val (.long j5), .second, iv (3 : Int32), iv xv, iv yv, iv zv, rv a899, .val (.long j4), .second, .val (.long j5), .second, .unset, .unset, .unset, .unset, .unset] [(.long j4)])
      refine go (fun _ => Jvm.Stand.ldc2J XJ hx hown (mvT hZ (hwi hw 59 rfl)) rfl (hb hby at_84)) ?_
      show Ends p e below s _ _ _ TJ (mkF m 87 #[iv i0, iv i1, iv i2, iv i3, .val (.long j4), .second, .val (.long j5), .second, iv (3 : Int32), iv xv, iv yv, iv zv, rv a899, .val (.long j4), .second, .val (.long j5), .second, .unset, .unset, .unset, .unset, .unset] [(.long (-1 : Int64)), (.long j4)])
      refine go (fun _ => XT.lxor XJ.here hx rfl (hb hby at_87) rfl) ?_
      refine go (fun _ => XT.lstore XJ.here hx rfl (hb hby at_88) rfl (l' := #[iv i0, iv i1, iv i2, iv i3, .val (.long j4), .second, .val (.long j5), .second, iv (3 : Int32), iv xv, iv yv, iv zv, rv a899, .val (.long j4), .second, .val (.long j5), .second, .val (.long (j4 ^^^ (-1 : Int64))), .second, .unset, .unset, .unset]) rfl) ?_
      refine go (fun _ => XT.lload XJ.here hx rfl (hb hby at_90) rfl) ?_
      refine go (fun _ => XT.lload XJ.here hx rfl (hb hby at_92) rfl) ?_
      refine go (fun _ => XT.lxor XJ.here hx rfl (hb hby at_94) rfl) ?_
      refine go (fun _ => XT.lstore XJ.here hx rfl (hb hby at_95) rfl (l' := #[iv i0, iv i1, iv i2, iv i3, .val (.long j4), .second, .val (.long j5), .second, iv (3 : Int32), iv xv, iv yv, iv zv, rv a899, .val (.long j4), .second, .val (.long j5), .second, .val (.long (j4 ^^^ (-1 : Int64))), .second, .val (.long (j4 ^^^ j5)), .second, .unset]) rfl) ?_
      show Ends p e below s _ _ _ TJ (mkF m 97 #[iv i0, iv i1, iv i2, iv i3, .val (.long j4), .second, .val (.long j5), .second, iv (3 : Int32), iv xv, iv yv, iv zv, rv a899, .val (.long j4), .second, .val (.long j5), .second, .val (.long (j4 ^^^ (-1 : Int64))), .second, .val (.long (j4 ^^^ j5)), .second, .unset] [])
      refine go (fun _ => XT.iconstV XJ.here hx rfl (4 : Int32) (hb hby at_97) (by decide)) ?_
      show Ends p e below s _ _ _ TJ (mkF m 98 #[iv i0, iv i1, iv i2, iv i3, .val (.long j4), .second, .val (.long j5), .second, iv (3 : Int32), iv xv, iv yv, iv zv, rv a899, .val (.long j4), .second, .val (.long j5), .second, .val (.long (j4 ^^^ (-1 : Int64))), .second, .val (.long (j4 ^^^ j5)), .second, .unset] [(.int (4 : Int32))])
      obtain ⟨T969, h969, k969, X969, e969, E969, A969, s969⟩ := newP XJ hx hZ (hwi hw 57 rfl) eJ (g := (mkF m 98 #[iv i0, iv i1, iv i2, iv i3, .val (.long j4), .second, .val (.long j5), .second, iv (3 : Int32), iv xv, iv yv, iv zv, rv a899, .val (.long j4), .second, .val (.long j5), .second, .val (.long (j4 ^^^ (-1 : Int64))), .second, .val (.long (j4 ^^^ j5)), .second, .unset] [(.int (4 : Int32))])) rfl (hb hby at_98) rfl (by decide) (cap := 4) (by decide) (by decide) (by decide) (by decide)
      obtain ⟨a969, g969⟩ : ∃ z : Addr, z = hJ.size := ⟨_, rfl⟩
      have n970 : a899 ≠ a969 := fun q => absurd (EJ.lt) (by rw [q, g969]; exact Nat.lt_irrefl _)
      have n971 : aiJ ≠ a969 := fun q => absurd (PJ4.lt) (by rw [q, g969]; exact Nat.lt_irrefl _)
      have n972 : awJ ≠ a969 := fun q => absurd (PJ5.lt) (by rw [q, g969]; exact Nat.lt_irrefl _)
      have f969 : Z.heap.size ≤ a969 := by rw [g969]; exact (OJ).1
      rw [← g969] at A969 s969
      have O973 : Ext Z.heap h969 := xx OJ E969
      have V969 : Arv Z h969 a969 k969 .long (4 : Int32) [(.long (0 : Int64)), (.long (0 : Int64)), (.long (0 : Int64)), (.long (0 : Int64))] (.long 0) := Arv.pad (Arv.new A969 (by decide)) (pad_rep [] _ 4)
      refine go s969 ?_
      show Ends p e below s _ _ _ T969 (mkF m 100 #[iv i0, iv i1, iv i2, iv i3, .val (.long j4), .second, .val (.long j5), .second, iv (3 : Int32), iv xv, iv yv, iv zv, rv a899, .val (.long j4), .second, .val (.long j5), .second, .val (.long (j4 ^^^ (-1 : Int64))), .second, .val (.long (j4 ^^^ j5)), .second, .unset] [(.ref a969)])
      refine go (fun _ => XS.dup X969.here hx rfl (hb hby at_100) rfl rfl) ?_
      refine go (fun _ => XT.iconstV X969.here hx rfl (0 : Int32) (hb hby at_101) (by decide)) ?_
      refine go (fun _ => XT.lload X969.here hx rfl (hb hby at_102) rfl) ?_
      show Ends p e below s _ _ _ T969 (mkF m 104 #[iv i0, iv i1, iv i2, iv i3, .val (.long j4), .second, .val (.long j5), .second, iv (3 : Int32), iv xv, iv yv, iv zv, rv a899, .val (.long j4), .second, .val (.long j5), .second, .val (.long (j4 ^^^ (-1 : Int64))), .second, .val (.long (j4 ^^^ j5)), .second, .unset] [(.long j4), (.int (0 : Int32)), (.ref a969), (.ref a969)])
      obtain ⟨cl974, A974, q974, S974, M974, H974, G974⟩ := id V969
      obtain ⟨T974, h974, X974, e974, W974, s974⟩ := stJ X969 hx hZ e969 A974 (j := (0 : Int32)) (inb_of S974 (by decide)) (g := (mkF m 104 #[iv i0, iv i1, iv i2, iv i3, .val (.long j4), .second, .val (.long j5), .second, iv (3 : Int32), iv xv, iv yv, iv zv, rv a899, .val (.long j4), .second, .val (.long j5), .second, .val (.long (j4 ^^^ (-1 : Int64))), .second, .val (.long (j4 ^^^ j5)), .second, .unset] [(.long j4), (.int (0 : Int32)), (.ref a969), (.ref a969)])) rfl rfl (hb hby at_104)
      have N974 := Fr.snoc X974 NJ f969
      have O975 : Ext Z.heap h974 := xw O973 W974 f969
      have V974 : Arv Z h974 a969 k969 .long (4 : Int32) [(.long j4), (.long (0 : Int64)), (.long (0 : Int64)), (.long (0 : Int64))] (.long 0) := Arv.set A974 q974 S974 M974 H974 G974 rfl W974 0 (by decide) (Nat.le_of_ble_eq_true rfl)
      refine go s974 ?_
      show Ends p e below s _ _ _ T974 (mkF m 105 #[iv i0, iv i1, iv i2, iv i3, .val (.long j4), .second, .val (.long j5), .second, iv (3 : Int32), iv xv, iv yv, iv zv, rv a899, .val (.long j4), .second, .val (.long j5), .second, .val (.long (j4 ^^^ (-1 : Int64))), .second, .val (.long (j4 ^^^ j5)), .second, .unset] [(.ref a969)])
      refine go (fun _ => XS.dup X974.here hx rfl (hb hby at_105) rfl rfl) ?_
      refine go (fun _ => XT.iconstV X974.here hx rfl (1 : Int32) (hb hby at_106) (by decide)) ?_
      refine go (fun _ => XT.lload X974.here hx rfl (hb hby at_107) rfl) ?_
      show Ends p e below s _ _ _ T974 (mkF m 109 #[iv i0, iv i1, iv i2, iv i3, .val (.long j4), .second, .val (.long j5), .second, iv (3 : Int32), iv xv, iv yv, iv zv, rv a899, .val (.long j4), .second, .val (.long j5), .second, .val (.long (j4 ^^^ (-1 : Int64))), .second, .val (.long (j4 ^^^ j5)), .second, .unset] [(.long j5), (.int (1 : Int32)), (.ref a969), (.ref a969)])
      obtain ⟨cl976, A976, q976, S976, M976, H976, G976⟩ := id V974
      obtain ⟨T976, h976, X976, e976, W976, s976⟩ := stJ X974 hx hZ e974 A976 (j := (1 : Int32)) (inb_of S976 (by decide)) (g := (mkF m 109 #[iv i0, iv i1, iv i2, iv i3, .val (.long j4), .second, .val (.long j5), .second, iv (3 : Int32), iv xv, iv yv, iv zv, rv a899, .val (.long j4), .second, .val (.long j5), .second, .val (.long (j4 ^^^ (-1 : Int64))), .second, .val (.long (j4 ^^^ j5)), .second, .unset] [(.long j5), (.int (1 : Int32)), (.ref a969), (.ref a969)])) rfl rfl (hb hby at_109)
      have N976 := Fr.snoc X976 N974 f969
      have O977 : Ext Z.heap h976 := xw O975 W976 f969
      have V976 : Arv Z h976 a969 k969 .long (4 : Int32) [(.long j4), (.long j5), (.long (0 : Int64)), (.long (0 : Int64))] (.long 0) := Arv.set A976 q976 S976 M976 H976 G976 rfl W976 1 (by decide) (Nat.le_of_ble_eq_true rfl)
      refine go s976 ?_
      show Ends p e below s _ _ _ T976 (mkF m 110 #[iv i0, iv i1, iv i2, iv i3, .val (.long j4), .second, .val (.long j5), .second, iv (3 : Int32), iv xv, iv yv, iv zv, rv a899, .val (.long j4), .second, .val (.long j5), .second, .val (.long (j4 ^^^ (-1 : Int64))), .second, .val (.long (j4 ^^^ j5)), .second, .unset] [(.ref a969)])
      refine go (fun _ => XS.dup X976.here hx rfl (hb hby at_110) rfl rfl) ?_
      refine go (fun _ => XT.iconstV X976.here hx rfl (2 : Int32) (hb hby at_111) (by decide)) ?_
      refine go (fun _ => XT.lload X976.here hx rfl (hb hby at_112) rfl) ?_
      show Ends p e below s _ _ _ T976 (mkF m 114 #[iv i0, iv i1, iv i2, iv i3, .val (.long j4), .second, .val (.long j5), .second, iv (3 : Int32), iv xv, iv yv, iv zv, rv a899, .val (.long j4), .second, .val (.long j5), .second, .val (.long (j4 ^^^ (-1 : Int64))), .second, .val (.long (j4 ^^^ j5)), .second, .unset] [(.long (j4 ^^^ (-1 : Int64))), (.int (2 : Int32)), (.ref a969), (.ref a969)])
      obtain ⟨cl978, A978, q978, S978, M978, H978, G978⟩ := id V976
      obtain ⟨T978, h978, X978, e978, W978, s978⟩ := stJ X976 hx hZ e976 A978 (j := (2 : Int32)) (inb_of S978 (by decide)) (g := (mkF m 114 #[iv i0, iv i1, iv i2, iv i3, .val (.long j4), .second, .val (.long j5), .second, iv (3 : Int32), iv xv, iv yv, iv zv, rv a899, .val (.long j4), .second, .val (.long j5), .second, .val (.long (j4 ^^^ (-1 : Int64))), .second, .val (.long (j4 ^^^ j5)), .second, .unset] [(.long (j4 ^^^ (-1 : Int64))), (.int (2 : Int32)), (.ref a969), (.ref a969)])) rfl rfl (hb hby at_114)
      have N978 := Fr.snoc X978 N976 f969
      have O979 : Ext Z.heap h978 := xw O977 W978 f969
      have V978 : Arv Z h978 a969 k969 .long (4 : Int32) [(.long j4), (.long j5), (.long (j4 ^^^ (-1 : Int64))), (.long (0 : Int64))] (.long 0) := Arv.set A978 q978 S978 M978 H978 G978 rfl W978 2 (by decide) (Nat.le_of_ble_eq_true rfl)
      refine go s978 ?_
      show Ends p e below s _ _ _ T978 (mkF m 115 #[iv i0, iv i1, iv i2, iv i3, .val (.long j4), .second, .val (.long j5), .second, iv (3 : Int32), iv xv, iv yv, iv zv, rv a899, .val (.long j4), .second, .val (.long j5), .second, .val (.long (j4 ^^^ (-1 : Int64))), .second, .val (.long (j4 ^^^ j5)), .second, .unset] [(.ref a969)])
      refine go (fun _ => XS.dup X978.here hx rfl (hb hby at_115) rfl rfl) ?_
      refine go (fun _ => XT.iconstV X978.here hx rfl (3 : Int32) (hb hby at_116) (by decide)) ?_
      refine go (fun _ => XT.lload X978.here hx rfl (hb hby at_117) rfl) ?_
      show Ends p e below s _ _ _ T978 (mkF m 119 #[iv i0, iv i1, iv i2, iv i3, .val (.long j4), .second, .val (.long j5), .second, iv (3 : Int32), iv xv, iv yv, iv zv, rv a899, .val (.long j4), .second, .val (.long j5), .second, .val (.long (j4 ^^^ (-1 : Int64))), .second, .val (.long (j4 ^^^ j5)), .second, .unset] [(.long (j4 ^^^ j5)), (.int (3 : Int32)), (.ref a969), (.ref a969)])
      obtain ⟨cl980, A980, q980, S980, M980, H980, G980⟩ := id V978
      obtain ⟨T980, h980, X980, e980, W980, s980⟩ := stJ X978 hx hZ e978 A980 (j := (3 : Int32)) (inb_of S980 (by decide)) (g := (mkF m 119 #[iv i0, iv i1, iv i2, iv i3, .val (.long j4), .second, .val (.long j5), .second, iv (3 : Int32), iv xv, iv yv, iv zv, rv a899, .val (.long j4), .second, .val (.long j5), .second, .val (.long (j4 ^^^ (-1 : Int64))), .second, .val (.long (j4 ^^^ j5)), .second, .unset] [(.long (j4 ^^^ j5)), (.int (3 : Int32)), (.ref a969), (.ref a969)])) rfl rfl (hb hby at_119)
      have N980 := Fr.snoc X980 N978 f969
      have O981 : Ext Z.heap h980 := xw O979 W980 f969
      have V980 : Arv Z h980 a969 k969 .long (4 : Int32) [(.long j4), (.long j5), (.long (j4 ^^^ (-1 : Int64))), (.long (j4 ^^^ j5))] (.long 0) := Arv.set A980 q980 S980 M980 H980 G980 rfl W980 3 (by decide) (Nat.le_of_ble_eq_true rfl)
      refine go s980 ?_
      show Ends p e below s _ _ _ T980 (mkF m 120 #[iv i0, iv i1, iv i2, iv i3, .val (.long j4), .second, .val (.long j5), .second, iv (3 : Int32), iv xv, iv yv, iv zv, rv a899, .val (.long j4), .second, .val (.long j5), .second, .val (.long (j4 ^^^ (-1 : Int64))), .second, .val (.long (j4 ^^^ j5)), .second, .unset] [(.ref a969)])
      refine go (fun _ => XS.astore X980.here hx rfl (hb hby at_120) rfl rfl (l' := #[iv i0, iv i1, iv i2, iv i3, .val (.long j4), .second, .val (.long j5), .second, iv (3 : Int32), iv xv, iv yv, iv zv, rv a899, .val (.long j4), .second, .val (.long j5), .second, .val (.long (j4 ^^^ (-1 : Int64))), .second, .val (.long (j4 ^^^ j5)), .second, rv a969]) rfl) ?_
      refine go (fun _ => XS.aload X980.here hx rfl (hb hby at_122) rfl rfl) ?_
      refine go (fun _ => XS.aload X980.here hx rfl (hb hby at_124) rfl rfl) ?_
      show Ends p e below s _ _ _ T980 (mkF m 126 #[iv i0, iv i1, iv i2, iv i3, .val (.long j4), .second, .val (.long j5), .second, iv (3 : Int32), iv xv, iv yv, iv zv, rv a899, .val (.long j4), .second, .val (.long j5), .second, .val (.long (j4 ^^^ (-1 : Int64))), .second, .val (.long (j4 ^^^ j5)), .second, rv a969] [(.ref a969), (.ref a899)])
      have F982 := (Fld.other W980 (Fld.other W978 (Fld.other W976 (Fld.other W974 (Fld.ext E969 PJ0) (Or.inl n970)) (Or.inl n970)) (Or.inl n970)) (Or.inl n970))
      have F983 := (Fld.other W980 (Fld.other W978 (Fld.other W976 (Fld.other W974 (Fld.ext E969 PJ1) (Or.inl n970)) (Or.inl n970)) (Or.inl n970)) (Or.inl n970))
      have F984 := (Fld.other W980 (Fld.other W978 (Fld.other W976 (Fld.other W974 (Fld.ext E969 PJ2) (Or.inl n970)) (Or.inl n970)) (Or.inl n970)) (Or.inl n970))
      have F985 := (Fld.other W980 (Fld.other W978 (Fld.other W976 (Fld.other W974 (Fld.ext E969 PJ3) (Or.inl n970)) (Or.inl n970)) (Or.inl n970)) (Or.inl n970))
      have F986 := (Arv.other (Arv.other (Arv.other (Arv.other (Arv.ext PJ4 E969) W974 n971) W976 n971) W978 n971) W980 n971)
      have F987 := (Arv.other (Arv.other (Arv.other (Arv.other (Arv.ext PJ5 E969) W974 n972) W976 n972) W978 n972) W980 n972)
      have F988 := (Exa.wr W980 (Exa.wr W978 (Exa.wr W976 (Exa.wr W974 (Exa.ext E969 EJ)))))
      have VL989 : Arv Z h980 a969 k969 .long (4 : Int32) (own_b (own_f j4 j5 (j4 ^^^ (-1 : Int64)) (j4 ^^^ j5))) (.long 0) := V980
      refine cVirt X980 hx hZ hown (by rw [hml]; rfl) e980 (hwi hw 60 rfl) (hwi hw 61 rfl) (hwi hw 63 rfl) (hwi hw 62 rfl) (hwi hw 2 rfl) (hwi hw 64 rfl) (notFace_of_selects (args := #[]) (mvT hZ (hwi hw 63 rfl))) a899 F988 [(.ref a969)] [] rfl (rm_add2_1 hw a899 aiJ awJ kiJ kwJ ij0 ij1 wj0 wj1 a969 k969 (own_f j4 j5 (j4 ^^^ (-1 : Int64)) (j4 ^^^ j5)) _ O981 f899 F988 F982 F983 F984 F985 F986 F987 fiJ fwJ n1J n2J n3J VL989 f969 n970 n971 n972 gj0 gj1) (hb hby at_126) rfl (lenOf pd_12 rfl) (by decide) (by decide) (Nat.le_of_ble_eq_true rfl) (by decide) (by decide) ?_
      rintro v990 T990 h990 L990 X990 e990 ⟨rfl, N990, K990, V990⟩
      have N990a := Fr.app N980 N990
      have O991 : Ext Z.heap h990 := xk O981 K990 (allS f969 all0)
      show Ends p e below s _ _ _ T990 (mkF m 129 #[iv i0, iv i1, iv i2, iv i3, .val (.long j4), .second, .val (.long j5), .second, iv (3 : Int32), iv xv, iv yv, iv zv, rv a899, .val (.long j4), .second, .val (.long j5), .second, .val (.long (j4 ^^^ (-1 : Int64))), .second, .val (.long (j4 ^^^ j5)), .second, rv a969] [])
      refine go (fun _ => XS.aload X990.here hx rfl (hb hby at_129) rfl rfl) ?_
      refine go (fun _ => XT.iconstV X990.here hx rfl (0 : Int32) (hb hby at_131) (by decide)) ?_
      show Ends p e below s _ _ _ T990 (mkF m 132 #[iv i0, iv i1, iv i2, iv i3, .val (.long j4), .second, .val (.long j5), .second, iv (3 : Int32), iv xv, iv yv, iv zv, rv a899, .val (.long j4), .second, .val (.long j5), .second, .val (.long (j4 ^^^ (-1 : Int64))), .second, .val (.long (j4 ^^^ j5)), .second, rv a969] [(.int (0 : Int32)), (.ref a969)])
      obtain ⟨cl992, A992, -, S992, M992, H992, -⟩ := id V990
      have B992 := inb_of S992 (j := (0 : Int32)) (by decide)
      refine go (fun _ => X990.laload hx (j := (0 : Int32)) (v := (.long ((own_add (own_add (own_f j4 j5 (j4 ^^^ (-1 : Int64)) (j4 ^^^ j5)) ij0.toNatClampNeg wj0) ij1.toNatClampNeg wj1) 0))) (by rw [e990]; exact A992.1) (State.isArrayOf_alike hZ.alike A992.2.1) A992.2.2 B992 (H992.at B992 rfl) (g := (mkF m 132 #[iv i0, iv i1, iv i2, iv i3, .val (.long j4), .second, .val (.long j5), .second, iv (3 : Int32), iv xv, iv yv, iv zv, rv a899, .val (.long j4), .second, .val (.long j5), .second, .val (.long (j4 ^^^ (-1 : Int64))), .second, .val (.long (j4 ^^^ j5)), .second, rv a969] [(.int (0 : Int32)), (.ref a969)])) rfl rfl (hb hby at_132) _) ?_
      show Ends p e below s _ _ _ T990 (mkF m 133 #[iv i0, iv i1, iv i2, iv i3, .val (.long j4), .second, .val (.long j5), .second, iv (3 : Int32), iv xv, iv yv, iv zv, rv a899, .val (.long j4), .second, .val (.long j5), .second, .val (.long (j4 ^^^ (-1 : Int64))), .second, .val (.long (j4 ^^^ j5)), .second, rv a969] [(.long ((own_add (own_add (own_f j4 j5 (j4 ^^^ (-1 : Int64)) (j4 ^^^ j5)) ij0.toNatClampNeg wj0) ij1.toNatClampNeg wj1) 0))])
      refine go (fun _ => XT.iconstV X990.here hx rfl (0 : Int32) (hb hby at_133) (by decide)) ?_
      refine go (fun _ => XT.lload X990.here hx rfl (hb hby at_134) rfl) ?_
      refine go (fun _ => XS.iload X990.here hx rfl (hb hby at_136) rfl) ?_
      refine go (fun _ => XS.iload X990.here hx rfl (hb hby at_138) rfl) ?_
      refine go (fun _ => XS.iload X990.here hx rfl (hb hby at_140) rfl) ?_
      refine go (fun _ => XS.iload X990.here hx rfl (hb hby at_142) rfl) ?_
      show Ends p e below s _ _ _ T990 (mkF m 144 #[iv i0, iv i1, iv i2, iv i3, .val (.long j4), .second, .val (.long j5), .second, iv (3 : Int32), iv xv, iv yv, iv zv, rv a899, .val (.long j4), .second, .val (.long j5), .second, .val (.long (j4 ^^^ (-1 : Int64))), .second, .val (.long (j4 ^^^ j5)), .second, rv a969] [(.int zv), (.int yv), (.int xv), (.int (3 : Int32)), (.long j4), (.int (0 : Int32)), (.long ((own_add (own_add (own_f j4 j5 (j4 ^^^ (-1 : Int64)) (j4 ^^^ j5)) ij0.toNatClampNeg wj0) ij1.toNatClampNeg wj1) 0))])
      refine cStat X990 hx hZ hown (by rw [hml]; rfl) e990 (hwi hw 65 rfl) (hwi hw 66 rfl) (hwi hw 67 rfl) (hwi hw 68 rfl) [(.int (0 : Int32)), (.long j4), (.int (3 : Int32)), (.int xv), (.int yv), (.int zv)] [(.long ((own_add (own_add (own_f j4 j5 (j4 ^^^ (-1 : Int64)) (j4 ^^^ j5)) ij0.toNatClampNeg wj0) ij1.toNatClampNeg wj1) 0))] rfl (rm_exp3 hw (0 : Int32) j4 xv yv zv _) (hb hby at_144) rfl (lenOf pd_13 rfl) (by decide) (by decide) (Nat.le_of_ble_eq_true rfl) (by decide) (by decide) ?_
      rintro v993 T993 h993 L993 X993 e993 ⟨rfl, N993, rfl⟩
      have N993a := Fr.app N990a N993
      show Ends p e below s _ _ _ T993 (mkF m 147 #[iv i0, iv i1, iv i2, iv i3, .val (.long j4), .second, .val (.long j5), .second, iv (3 : Int32), iv xv, iv yv, iv zv, rv a899, .val (.long j4), .second, .val (.long j5), .second, .val (.long (j4 ^^^ (-1 : Int64))), .second, .val (.long (j4 ^^^ j5)), .second, rv a969] [(.long (own_acc (XT.ushr zv (6 : Int32)) (0 : Int32) (own_acc (XT.ushr yv (6 : Int32)) (0 : Int32) (own_acc (XT.ushr xv (6 : Int32)) (0 : Int32) j4 ((1 : Int64) <<< (xv.toInt64 &&& 63))) ((1 : Int64) <<< (yv.toInt64 &&& 63))) ((1 : Int64) <<< (zv.toInt64 &&& 63)))), (.long ((own_add (own_add (own_f j4 j5 (j4 ^^^ (-1 : Int64)) (j4 ^^^ j5)) ij0.toNatClampNeg wj0) ij1.toNatClampNeg wj1) 0))])
      refine go (fun _ => XT.lcmp X993.here hx rfl (hb hby at_147) rfl) ?_
      show Ends p e below s _ _ _ T993 (mkF m 148 #[iv i0, iv i1, iv i2, iv i3, .val (.long j4), .second, .val (.long j5), .second, iv (3 : Int32), iv xv, iv yv, iv zv, rv a899, .val (.long j4), .second, .val (.long j5), .second, .val (.long (j4 ^^^ (-1 : Int64))), .second, .val (.long (j4 ^^^ j5)), .second, rv a969] [(.int (XT.cmpL ((own_add (own_add (own_f j4 j5 (j4 ^^^ (-1 : Int64)) (j4 ^^^ j5)) ij0.toNatClampNeg wj0) ij1.toNatClampNeg wj1) 0) (own_acc (XT.ushr zv (6 : Int32)) (0 : Int32) (own_acc (XT.ushr yv (6 : Int32)) (0 : Int32) (own_acc (XT.ushr xv (6 : Int32)) (0 : Int32) j4 ((1 : Int64) <<< (xv.toInt64 &&& 63))) ((1 : Int64) <<< (yv.toInt64 &&& 63))) ((1 : Int64) <<< (zv.toInt64 &&& 63)))))])
      refine go (fun _ => XS.ifNo X993.here hx rfl (hb hby at_148) rfl (XT.ll_ne_f qj0)) ?_
      show Ends p e below s _ _ _ T993 (mkF m 151 #[iv i0, iv i1, iv i2, iv i3, .val (.long j4), .second, .val (.long j5), .second, iv (3 : Int32), iv xv, iv yv, iv zv, rv a899, .val (.long j4), .second, .val (.long j5), .second, .val (.long (j4 ^^^ (-1 : Int64))), .second, .val (.long (j4 ^^^ j5)), .second, rv a969] [])
      refine go (fun _ => XS.aload X993.here hx rfl (hb hby at_151) rfl rfl) ?_
      refine go (fun _ => XT.iconstV X993.here hx rfl (1 : Int32) (hb hby at_153) (by decide)) ?_
      show Ends p e below s _ _ _ T993 (mkF m 154 #[iv i0, iv i1, iv i2, iv i3, .val (.long j4), .second, .val (.long j5), .second, iv (3 : Int32), iv xv, iv yv, iv zv, rv a899, .val (.long j4), .second, .val (.long j5), .second, .val (.long (j4 ^^^ (-1 : Int64))), .second, .val (.long (j4 ^^^ j5)), .second, rv a969] [(.int (1 : Int32)), (.ref a969)])
      obtain ⟨cl994, A994, -, S994, M994, H994, -⟩ := id V990
      have B994 := inb_of S994 (j := (1 : Int32)) (by decide)
      refine go (fun _ => X993.laload hx (j := (1 : Int32)) (v := (.long ((own_add (own_add (own_f j4 j5 (j4 ^^^ (-1 : Int64)) (j4 ^^^ j5)) ij0.toNatClampNeg wj0) ij1.toNatClampNeg wj1) 1))) (by rw [e993]; exact A994.1) (State.isArrayOf_alike hZ.alike A994.2.1) A994.2.2 B994 (H994.at B994 rfl) (g := (mkF m 154 #[iv i0, iv i1, iv i2, iv i3, .val (.long j4), .second, .val (.long j5), .second, iv (3 : Int32), iv xv, iv yv, iv zv, rv a899, .val (.long j4), .second, .val (.long j5), .second, .val (.long (j4 ^^^ (-1 : Int64))), .second, .val (.long (j4 ^^^ j5)), .second, rv a969] [(.int (1 : Int32)), (.ref a969)])) rfl rfl (hb hby at_154) _) ?_
      show Ends p e below s _ _ _ T993 (mkF m 155 #[iv i0, iv i1, iv i2, iv i3, .val (.long j4), .second, .val (.long j5), .second, iv (3 : Int32), iv xv, iv yv, iv zv, rv a899, .val (.long j4), .second, .val (.long j5), .second, .val (.long (j4 ^^^ (-1 : Int64))), .second, .val (.long (j4 ^^^ j5)), .second, rv a969] [(.long ((own_add (own_add (own_f j4 j5 (j4 ^^^ (-1 : Int64)) (j4 ^^^ j5)) ij0.toNatClampNeg wj0) ij1.toNatClampNeg wj1) 1))])
      refine go (fun _ => XT.iconstV X993.here hx rfl (1 : Int32) (hb hby at_155) (by decide)) ?_
      refine go (fun _ => XT.lload X993.here hx rfl (hb hby at_156) rfl) ?_
      refine go (fun _ => XS.iload X993.here hx rfl (hb hby at_158) rfl) ?_
      refine go (fun _ => XS.iload X993.here hx rfl (hb hby at_160) rfl) ?_
      refine go (fun _ => XS.iload X993.here hx rfl (hb hby at_162) rfl) ?_
      refine go (fun _ => XS.iload X993.here hx rfl (hb hby at_164) rfl) ?_
      show Ends p e below s _ _ _ T993 (mkF m 166 #[iv i0, iv i1, iv i2, iv i3, .val (.long j4), .second, .val (.long j5), .second, iv (3 : Int32), iv xv, iv yv, iv zv, rv a899, .val (.long j4), .second, .val (.long j5), .second, .val (.long (j4 ^^^ (-1 : Int64))), .second, .val (.long (j4 ^^^ j5)), .second, rv a969] [(.int zv), (.int yv), (.int xv), (.int (3 : Int32)), (.long j5), (.int (1 : Int32)), (.long ((own_add (own_add (own_f j4 j5 (j4 ^^^ (-1 : Int64)) (j4 ^^^ j5)) ij0.toNatClampNeg wj0) ij1.toNatClampNeg wj1) 1))])
      refine cStat X993 hx hZ hown (by rw [hml]; rfl) e993 (hwi hw 65 rfl) (hwi hw 66 rfl) (hwi hw 67 rfl) (hwi hw 68 rfl) [(.int (1 : Int32)), (.long j5), (.int (3 : Int32)), (.int xv), (.int yv), (.int zv)] [(.long ((own_add (own_add (own_f j4 j5 (j4 ^^^ (-1 : Int64)) (j4 ^^^ j5)) ij0.toNatClampNeg wj0) ij1.toNatClampNeg wj1) 1))] rfl (rm_exp3 hw (1 : Int32) j5 xv yv zv _) (hb hby at_166) rfl (lenOf pd_13 rfl) (by decide) (by decide) (Nat.le_of_ble_eq_true rfl) (by decide) (by decide) ?_
      rintro v995 T995 h995 L995 X995 e995 ⟨rfl, N995, rfl⟩
      have N995a := Fr.app N993a N995
      show Ends p e below s _ _ _ T995 (mkF m 169 #[iv i0, iv i1, iv i2, iv i3, .val (.long j4), .second, .val (.long j5), .second, iv (3 : Int32), iv xv, iv yv, iv zv, rv a899, .val (.long j4), .second, .val (.long j5), .second, .val (.long (j4 ^^^ (-1 : Int64))), .second, .val (.long (j4 ^^^ j5)), .second, rv a969] [(.long (own_acc (XT.ushr zv (6 : Int32)) (1 : Int32) (own_acc (XT.ushr yv (6 : Int32)) (1 : Int32) (own_acc (XT.ushr xv (6 : Int32)) (1 : Int32) j5 ((1 : Int64) <<< (xv.toInt64 &&& 63))) ((1 : Int64) <<< (yv.toInt64 &&& 63))) ((1 : Int64) <<< (zv.toInt64 &&& 63)))), (.long ((own_add (own_add (own_f j4 j5 (j4 ^^^ (-1 : Int64)) (j4 ^^^ j5)) ij0.toNatClampNeg wj0) ij1.toNatClampNeg wj1) 1))])
      refine go (fun _ => XT.lcmp X995.here hx rfl (hb hby at_169) rfl) ?_
      show Ends p e below s _ _ _ T995 (mkF m 170 #[iv i0, iv i1, iv i2, iv i3, .val (.long j4), .second, .val (.long j5), .second, iv (3 : Int32), iv xv, iv yv, iv zv, rv a899, .val (.long j4), .second, .val (.long j5), .second, .val (.long (j4 ^^^ (-1 : Int64))), .second, .val (.long (j4 ^^^ j5)), .second, rv a969] [(.int (XT.cmpL ((own_add (own_add (own_f j4 j5 (j4 ^^^ (-1 : Int64)) (j4 ^^^ j5)) ij0.toNatClampNeg wj0) ij1.toNatClampNeg wj1) 1) (own_acc (XT.ushr zv (6 : Int32)) (1 : Int32) (own_acc (XT.ushr yv (6 : Int32)) (1 : Int32) (own_acc (XT.ushr xv (6 : Int32)) (1 : Int32) j5 ((1 : Int64) <<< (xv.toInt64 &&& 63))) ((1 : Int64) <<< (yv.toInt64 &&& 63))) ((1 : Int64) <<< (zv.toInt64 &&& 63)))))])
      refine go (fun _ => XS.ifNo X995.here hx rfl (hb hby at_170) rfl (XT.ll_ne_f qj1)) ?_
      show Ends p e below s _ _ _ T995 (mkF m 173 #[iv i0, iv i1, iv i2, iv i3, .val (.long j4), .second, .val (.long j5), .second, iv (3 : Int32), iv xv, iv yv, iv zv, rv a899, .val (.long j4), .second, .val (.long j5), .second, .val (.long (j4 ^^^ (-1 : Int64))), .second, .val (.long (j4 ^^^ j5)), .second, rv a969] [])
      refine go (fun _ => XS.aload X995.here hx rfl (hb hby at_173) rfl rfl) ?_
      refine go (fun _ => XT.iconstV X995.here hx rfl (2 : Int32) (hb hby at_175) (by decide)) ?_
      show Ends p e below s _ _ _ T995 (mkF m 176 #[iv i0, iv i1, iv i2, iv i3, .val (.long j4), .second, .val (.long j5), .second, iv (3 : Int32), iv xv, iv yv, iv zv, rv a899, .val (.long j4), .second, .val (.long j5), .second, .val (.long (j4 ^^^ (-1 : Int64))), .second, .val (.long (j4 ^^^ j5)), .second, rv a969] [(.int (2 : Int32)), (.ref a969)])
      obtain ⟨cl996, A996, -, S996, M996, H996, -⟩ := id V990
      have B996 := inb_of S996 (j := (2 : Int32)) (by decide)
      refine go (fun _ => X995.laload hx (j := (2 : Int32)) (v := (.long ((own_add (own_add (own_f j4 j5 (j4 ^^^ (-1 : Int64)) (j4 ^^^ j5)) ij0.toNatClampNeg wj0) ij1.toNatClampNeg wj1) 2))) (by rw [e995]; exact A996.1) (State.isArrayOf_alike hZ.alike A996.2.1) A996.2.2 B996 (H996.at B996 rfl) (g := (mkF m 176 #[iv i0, iv i1, iv i2, iv i3, .val (.long j4), .second, .val (.long j5), .second, iv (3 : Int32), iv xv, iv yv, iv zv, rv a899, .val (.long j4), .second, .val (.long j5), .second, .val (.long (j4 ^^^ (-1 : Int64))), .second, .val (.long (j4 ^^^ j5)), .second, rv a969] [(.int (2 : Int32)), (.ref a969)])) rfl rfl (hb hby at_176) _) ?_
      show Ends p e below s _ _ _ T995 (mkF m 177 #[iv i0, iv i1, iv i2, iv i3, .val (.long j4), .second, .val (.long j5), .second, iv (3 : Int32), iv xv, iv yv, iv zv, rv a899, .val (.long j4), .second, .val (.long j5), .second, .val (.long (j4 ^^^ (-1 : Int64))), .second, .val (.long (j4 ^^^ j5)), .second, rv a969] [(.long ((own_add (own_add (own_f j4 j5 (j4 ^^^ (-1 : Int64)) (j4 ^^^ j5)) ij0.toNatClampNeg wj0) ij1.toNatClampNeg wj1) 2))])
      refine go (fun _ => XT.iconstV X995.here hx rfl (2 : Int32) (hb hby at_177) (by decide)) ?_
      refine go (fun _ => XT.lload X995.here hx rfl (hb hby at_178) rfl) ?_
      refine go (fun _ => XS.iload X995.here hx rfl (hb hby at_180) rfl) ?_
      refine go (fun _ => XS.iload X995.here hx rfl (hb hby at_182) rfl) ?_
      refine go (fun _ => XS.iload X995.here hx rfl (hb hby at_184) rfl) ?_
      refine go (fun _ => XS.iload X995.here hx rfl (hb hby at_186) rfl) ?_
      show Ends p e below s _ _ _ T995 (mkF m 188 #[iv i0, iv i1, iv i2, iv i3, .val (.long j4), .second, .val (.long j5), .second, iv (3 : Int32), iv xv, iv yv, iv zv, rv a899, .val (.long j4), .second, .val (.long j5), .second, .val (.long (j4 ^^^ (-1 : Int64))), .second, .val (.long (j4 ^^^ j5)), .second, rv a969] [(.int zv), (.int yv), (.int xv), (.int (3 : Int32)), (.long (j4 ^^^ (-1 : Int64))), (.int (2 : Int32)), (.long ((own_add (own_add (own_f j4 j5 (j4 ^^^ (-1 : Int64)) (j4 ^^^ j5)) ij0.toNatClampNeg wj0) ij1.toNatClampNeg wj1) 2))])
      refine cStat X995 hx hZ hown (by rw [hml]; rfl) e995 (hwi hw 65 rfl) (hwi hw 66 rfl) (hwi hw 67 rfl) (hwi hw 68 rfl) [(.int (2 : Int32)), (.long (j4 ^^^ (-1 : Int64))), (.int (3 : Int32)), (.int xv), (.int yv), (.int zv)] [(.long ((own_add (own_add (own_f j4 j5 (j4 ^^^ (-1 : Int64)) (j4 ^^^ j5)) ij0.toNatClampNeg wj0) ij1.toNatClampNeg wj1) 2))] rfl (rm_exp3 hw (2 : Int32) (j4 ^^^ (-1 : Int64)) xv yv zv _) (hb hby at_188) rfl (lenOf pd_13 rfl) (by decide) (by decide) (Nat.le_of_ble_eq_true rfl) (by decide) (by decide) ?_
      rintro v997 T997 h997 L997 X997 e997 ⟨rfl, N997, rfl⟩
      have N997a := Fr.app N995a N997
      show Ends p e below s _ _ _ T997 (mkF m 191 #[iv i0, iv i1, iv i2, iv i3, .val (.long j4), .second, .val (.long j5), .second, iv (3 : Int32), iv xv, iv yv, iv zv, rv a899, .val (.long j4), .second, .val (.long j5), .second, .val (.long (j4 ^^^ (-1 : Int64))), .second, .val (.long (j4 ^^^ j5)), .second, rv a969] [(.long (own_acc (XT.ushr zv (6 : Int32)) (2 : Int32) (own_acc (XT.ushr yv (6 : Int32)) (2 : Int32) (own_acc (XT.ushr xv (6 : Int32)) (2 : Int32) (j4 ^^^ (-1 : Int64)) ((1 : Int64) <<< (xv.toInt64 &&& 63))) ((1 : Int64) <<< (yv.toInt64 &&& 63))) ((1 : Int64) <<< (zv.toInt64 &&& 63)))), (.long ((own_add (own_add (own_f j4 j5 (j4 ^^^ (-1 : Int64)) (j4 ^^^ j5)) ij0.toNatClampNeg wj0) ij1.toNatClampNeg wj1) 2))])
      refine go (fun _ => XT.lcmp X997.here hx rfl (hb hby at_191) rfl) ?_
      show Ends p e below s _ _ _ T997 (mkF m 192 #[iv i0, iv i1, iv i2, iv i3, .val (.long j4), .second, .val (.long j5), .second, iv (3 : Int32), iv xv, iv yv, iv zv, rv a899, .val (.long j4), .second, .val (.long j5), .second, .val (.long (j4 ^^^ (-1 : Int64))), .second, .val (.long (j4 ^^^ j5)), .second, rv a969] [(.int (XT.cmpL ((own_add (own_add (own_f j4 j5 (j4 ^^^ (-1 : Int64)) (j4 ^^^ j5)) ij0.toNatClampNeg wj0) ij1.toNatClampNeg wj1) 2) (own_acc (XT.ushr zv (6 : Int32)) (2 : Int32) (own_acc (XT.ushr yv (6 : Int32)) (2 : Int32) (own_acc (XT.ushr xv (6 : Int32)) (2 : Int32) (j4 ^^^ (-1 : Int64)) ((1 : Int64) <<< (xv.toInt64 &&& 63))) ((1 : Int64) <<< (yv.toInt64 &&& 63))) ((1 : Int64) <<< (zv.toInt64 &&& 63)))))])
      refine go (fun _ => XS.ifNo X997.here hx rfl (hb hby at_192) rfl (XT.ll_ne_f qj2)) ?_
      show Ends p e below s _ _ _ T997 (mkF m 195 #[iv i0, iv i1, iv i2, iv i3, .val (.long j4), .second, .val (.long j5), .second, iv (3 : Int32), iv xv, iv yv, iv zv, rv a899, .val (.long j4), .second, .val (.long j5), .second, .val (.long (j4 ^^^ (-1 : Int64))), .second, .val (.long (j4 ^^^ j5)), .second, rv a969] [])
      refine go (fun _ => XS.aload X997.here hx rfl (hb hby at_195) rfl rfl) ?_
      refine go (fun _ => XT.iconstV X997.here hx rfl (3 : Int32) (hb hby at_197) (by decide)) ?_
      show Ends p e below s _ _ _ T997 (mkF m 198 #[iv i0, iv i1, iv i2, iv i3, .val (.long j4), .second, .val (.long j5), .second, iv (3 : Int32), iv xv, iv yv, iv zv, rv a899, .val (.long j4), .second, .val (.long j5), .second, .val (.long (j4 ^^^ (-1 : Int64))), .second, .val (.long (j4 ^^^ j5)), .second, rv a969] [(.int (3 : Int32)), (.ref a969)])
      obtain ⟨cl998, A998, -, S998, M998, H998, -⟩ := id V990
      have B998 := inb_of S998 (j := (3 : Int32)) (by decide)
      refine go (fun _ => X997.laload hx (j := (3 : Int32)) (v := (.long ((own_add (own_add (own_f j4 j5 (j4 ^^^ (-1 : Int64)) (j4 ^^^ j5)) ij0.toNatClampNeg wj0) ij1.toNatClampNeg wj1) 3))) (by rw [e997]; exact A998.1) (State.isArrayOf_alike hZ.alike A998.2.1) A998.2.2 B998 (H998.at B998 rfl) (g := (mkF m 198 #[iv i0, iv i1, iv i2, iv i3, .val (.long j4), .second, .val (.long j5), .second, iv (3 : Int32), iv xv, iv yv, iv zv, rv a899, .val (.long j4), .second, .val (.long j5), .second, .val (.long (j4 ^^^ (-1 : Int64))), .second, .val (.long (j4 ^^^ j5)), .second, rv a969] [(.int (3 : Int32)), (.ref a969)])) rfl rfl (hb hby at_198) _) ?_
      show Ends p e below s _ _ _ T997 (mkF m 199 #[iv i0, iv i1, iv i2, iv i3, .val (.long j4), .second, .val (.long j5), .second, iv (3 : Int32), iv xv, iv yv, iv zv, rv a899, .val (.long j4), .second, .val (.long j5), .second, .val (.long (j4 ^^^ (-1 : Int64))), .second, .val (.long (j4 ^^^ j5)), .second, rv a969] [(.long ((own_add (own_add (own_f j4 j5 (j4 ^^^ (-1 : Int64)) (j4 ^^^ j5)) ij0.toNatClampNeg wj0) ij1.toNatClampNeg wj1) 3))])
      refine go (fun _ => XT.iconstV X997.here hx rfl (3 : Int32) (hb hby at_199) (by decide)) ?_
      refine go (fun _ => XT.lload X997.here hx rfl (hb hby at_200) rfl) ?_
      refine go (fun _ => XS.iload X997.here hx rfl (hb hby at_202) rfl) ?_
      refine go (fun _ => XS.iload X997.here hx rfl (hb hby at_204) rfl) ?_
      refine go (fun _ => XS.iload X997.here hx rfl (hb hby at_206) rfl) ?_
      refine go (fun _ => XS.iload X997.here hx rfl (hb hby at_208) rfl) ?_
      show Ends p e below s _ _ _ T997 (mkF m 210 #[iv i0, iv i1, iv i2, iv i3, .val (.long j4), .second, .val (.long j5), .second, iv (3 : Int32), iv xv, iv yv, iv zv, rv a899, .val (.long j4), .second, .val (.long j5), .second, .val (.long (j4 ^^^ (-1 : Int64))), .second, .val (.long (j4 ^^^ j5)), .second, rv a969] [(.int zv), (.int yv), (.int xv), (.int (3 : Int32)), (.long (j4 ^^^ j5)), (.int (3 : Int32)), (.long ((own_add (own_add (own_f j4 j5 (j4 ^^^ (-1 : Int64)) (j4 ^^^ j5)) ij0.toNatClampNeg wj0) ij1.toNatClampNeg wj1) 3))])
      refine cStat X997 hx hZ hown (by rw [hml]; rfl) e997 (hwi hw 65 rfl) (hwi hw 66 rfl) (hwi hw 67 rfl) (hwi hw 68 rfl) [(.int (3 : Int32)), (.long (j4 ^^^ j5)), (.int (3 : Int32)), (.int xv), (.int yv), (.int zv)] [(.long ((own_add (own_add (own_f j4 j5 (j4 ^^^ (-1 : Int64)) (j4 ^^^ j5)) ij0.toNatClampNeg wj0) ij1.toNatClampNeg wj1) 3))] rfl (rm_exp3 hw (3 : Int32) (j4 ^^^ j5) xv yv zv _) (hb hby at_210) rfl (lenOf pd_13 rfl) (by decide) (by decide) (Nat.le_of_ble_eq_true rfl) (by decide) (by decide) ?_
      rintro v999 T999 h999 L999 X999 e999 ⟨rfl, N999, rfl⟩
      have N999a := Fr.app N997a N999
      show Ends p e below s _ _ _ T999 (mkF m 213 #[iv i0, iv i1, iv i2, iv i3, .val (.long j4), .second, .val (.long j5), .second, iv (3 : Int32), iv xv, iv yv, iv zv, rv a899, .val (.long j4), .second, .val (.long j5), .second, .val (.long (j4 ^^^ (-1 : Int64))), .second, .val (.long (j4 ^^^ j5)), .second, rv a969] [(.long (own_acc (XT.ushr zv (6 : Int32)) (3 : Int32) (own_acc (XT.ushr yv (6 : Int32)) (3 : Int32) (own_acc (XT.ushr xv (6 : Int32)) (3 : Int32) (j4 ^^^ j5) ((1 : Int64) <<< (xv.toInt64 &&& 63))) ((1 : Int64) <<< (yv.toInt64 &&& 63))) ((1 : Int64) <<< (zv.toInt64 &&& 63)))), (.long ((own_add (own_add (own_f j4 j5 (j4 ^^^ (-1 : Int64)) (j4 ^^^ j5)) ij0.toNatClampNeg wj0) ij1.toNatClampNeg wj1) 3))])
      refine go (fun _ => XT.lcmp X999.here hx rfl (hb hby at_213) rfl) ?_
      show Ends p e below s _ _ _ T999 (mkF m 214 #[iv i0, iv i1, iv i2, iv i3, .val (.long j4), .second, .val (.long j5), .second, iv (3 : Int32), iv xv, iv yv, iv zv, rv a899, .val (.long j4), .second, .val (.long j5), .second, .val (.long (j4 ^^^ (-1 : Int64))), .second, .val (.long (j4 ^^^ j5)), .second, rv a969] [(.int (XT.cmpL ((own_add (own_add (own_f j4 j5 (j4 ^^^ (-1 : Int64)) (j4 ^^^ j5)) ij0.toNatClampNeg wj0) ij1.toNatClampNeg wj1) 3) (own_acc (XT.ushr zv (6 : Int32)) (3 : Int32) (own_acc (XT.ushr yv (6 : Int32)) (3 : Int32) (own_acc (XT.ushr xv (6 : Int32)) (3 : Int32) (j4 ^^^ j5) ((1 : Int64) <<< (xv.toInt64 &&& 63))) ((1 : Int64) <<< (yv.toInt64 &&& 63))) ((1 : Int64) <<< (zv.toInt64 &&& 63)))))])
      refine go (fun _ => XS.ifNo X999.here hx rfl (hb hby at_214) rfl (XT.ll_ne_f qj3)) ?_
      show Ends p e below s _ _ _ T999 (mkF m 217 #[iv i0, iv i1, iv i2, iv i3, .val (.long j4), .second, .val (.long j5), .second, iv (3 : Int32), iv xv, iv yv, iv zv, rv a899, .val (.long j4), .second, .val (.long j5), .second, .val (.long (j4 ^^^ (-1 : Int64))), .second, .val (.long (j4 ^^^ j5)), .second, rv a969] [])
      refine go (fun _ => XT.iconstV X999.here hx rfl (1 : Int32) (hb hby at_217) (by decide)) ?_
      refine go (fun _ => XS.goto X999.here hx rfl (pc0 := 218) (pc' := 222) rfl (hb hby at_218) (by decide) (by decide)) ?_
      show Ends p e below s _ _ _ T999 (mkF m 222 #[iv i0, iv i1, iv i2, iv i3, .val (.long j4), .second, .val (.long j5), .second, iv (3 : Int32), iv xv, iv yv, iv zv, rv a899, .val (.long j4), .second, .val (.long j5), .second, .val (.long (j4 ^^^ (-1 : Int64))), .second, .val (.long (j4 ^^^ j5)), .second, rv a969] [(.int (1 : Int32))])
      exact endN X999 hx hlk hret (by simp) (hb hby at_222) e999 ⟨rfl, N999a⟩ (by decide) (by decide)
    have J3_3_0 : ∀ (TJ : State) (hJ : Heap) (LJ : List Loc) (aiJ awJ : Addr) (kiJ kwJ : ClassId) (ij0 ij1 ij2 : Int32) (wj0 wj1 wj2 : Int64) (XJ : Stand p l e room_1 s m #[(.int i0), (.int i1), (.int i2), (.int i3), (.long j4), (.long j5)] below meth c TJ LJ 8 64) (eJ : TJ.heap = hJ) (OJ : Ext Z.heap hJ) (NJ : Fr Z.heap.size LJ) (EJ : Exa Z hJ a899 "com/example/libtbox/libtbox/core/SparseBitSet") (PJ0 : Fld Z hJ a899 "com/example/libtbox/libtbox/core/SparseBitSet" "indices" "[I" (.ref aiJ)) (PJ1 : Fld Z hJ a899 "com/example/libtbox/libtbox/core/SparseBitSet" "words" "[J" (.ref awJ)) (PJ2 : Fld Z hJ a899 "com/example/libtbox/libtbox/core/SparseBitSet" "count" "I" (.int (3 : Int32))) (PJ3 : Fld Z hJ a899 "com/example/libtbox/libtbox/core/SparseBitSet" "lastFound" "I" (.int (0 : Int32))) (PJ4 : Arv Z hJ aiJ kiJ .int (4 : Int32) [(.int ij0), (.int ij1), (.int ij2), (.int (0 : Int32))] (.int 0)) (PJ5 : Arv Z hJ awJ kwJ .long (4 : Int32) [(.long wj0), (.long wj1), (.long wj2), (.long (0 : Int64))] (.long 0)) (fiJ : Z.heap.size ≤ aiJ) (fwJ : Z.heap.size ≤ awJ) (n1J : a899 ≠ aiJ) (n2J : a899 ≠ awJ) (n3J : aiJ ≠ awJ) (gj0 : ¬ ij0 < 0 ∧ ij0 < 4) (gj1 : ¬ ij1 < 0 ∧ ij1 < 4) (gj2 : ¬ ij2 < 0 ∧ ij2 < 4) (qj0 : ((own_add (own_add (own_add (own_f j4 j5 (j4 ^^^ (-1 : Int64)) (j4 ^^^ j5)) ij0.toNatClampNeg wj0) ij1.toNatClampNeg wj1) ij2.toNatClampNeg wj2) 0) = (own_acc (XT.ushr zv (6 : Int32)) (0 : Int32) (own_acc (XT.ushr yv (6 : Int32)) (0 : Int32) (own_acc (XT.ushr xv (6 : Int32)) (0 : Int32) j4 ((1 : Int64) <<< (xv.toInt64 &&& 63))) ((1 : Int64) <<< (yv.toInt64 &&& 63))) ((1 : Int64) <<< (zv.toInt64 &&& 63)))) (qj1 : ((own_add (own_add (own_add (own_f j4 j5 (j4 ^^^ (-1 : Int64)) (j4 ^^^ j5)) ij0.toNatClampNeg wj0) ij1.toNatClampNeg wj1) ij2.toNatClampNeg wj2) 1) = (own_acc (XT.ushr zv (6 : Int32)) (1 : Int32) (own_acc (XT.ushr yv (6 : Int32)) (1 : Int32) (own_acc (XT.ushr xv (6 : Int32)) (1 : Int32) j5 ((1 : Int64) <<< (xv.toInt64 &&& 63))) ((1 : Int64) <<< (yv.toInt64 &&& 63))) ((1 : Int64) <<< (zv.toInt64 &&& 63)))) (qj2 : ((own_add (own_add (own_add (own_f j4 j5 (j4 ^^^ (-1 : Int64)) (j4 ^^^ j5)) ij0.toNatClampNeg wj0) ij1.toNatClampNeg wj1) ij2.toNatClampNeg wj2) 2) = (own_acc (XT.ushr zv (6 : Int32)) (2 : Int32) (own_acc (XT.ushr yv (6 : Int32)) (2 : Int32) (own_acc (XT.ushr xv (6 : Int32)) (2 : Int32) (j4 ^^^ (-1 : Int64)) ((1 : Int64) <<< (xv.toInt64 &&& 63))) ((1 : Int64) <<< (yv.toInt64 &&& 63))) ((1 : Int64) <<< (zv.toInt64 &&& 63)))) (qj3 : ((own_add (own_add (own_add (own_f j4 j5 (j4 ^^^ (-1 : Int64)) (j4 ^^^ j5)) ij0.toNatClampNeg wj0) ij1.toNatClampNeg wj1) ij2.toNatClampNeg wj2) 3) = (own_acc (XT.ushr zv (6 : Int32)) (3 : Int32) (own_acc (XT.ushr yv (6 : Int32)) (3 : Int32) (own_acc (XT.ushr xv (6 : Int32)) (3 : Int32) (j4 ^^^ j5) ((1 : Int64) <<< (xv.toInt64 &&& 63))) ((1 : Int64) <<< (yv.toInt64 &&& 63))) ((1 : Int64) <<< (zv.toInt64 &&& 63)))), Ends p e below s (fun v h L => v = some (.int 1) ∧ Fr Z.heap.size L) room_1.cells room_1.slots TJ (mkF m 74 #[iv i0, iv i1, iv i2, iv i3, .val (.long j4), .second, .val (.long j5), .second, iv (3 : Int32), iv xv, iv yv, iv zv, rv a899, .unset, .unset, .unset, .unset, .unset, .unset, .unset, .unset, .unset] []) := by
      intro TJ hJ LJ aiJ awJ kiJ kwJ ij0 ij1 ij2 wj0 wj1 wj2 XJ eJ OJ NJ EJ PJ0 PJ1 PJ2 PJ3 PJ4 PJ5 fiJ fwJ n1J n2J n3J gj0 gj1 gj2 qj0 qj1 qj2 qj3
      refine go (fun _ => XT.lload XJ.here hx rfl (hb hby at_74) rfl) ?_
      refine go (fun _ => XT.lstore XJ.here hx rfl (hb hby at_76) rfl (l' := #[iv i0, iv i1, iv i2, iv i3, .val (.long j4), .second, .val (.long j5), .second, iv (3 : Int32), iv xv, iv yv, iv zv, rv a899, .val (.long j4), .second, .unset, .unset, .unset, .unset, .unset, .unset, .unset]) rfl) ?_
      refine go (fun _ => XT.lload XJ.here hx rfl (hb hby at_78) rfl) ?_
      refine go (fun _ => XT.lstore XJ.here hx rfl (hb hby at_80) rfl (l' := #[iv i0, iv i1, iv i2, iv i3, .val (.long j4), .second, .val (.long j5), .second, iv (3 : Int32), iv xv, iv yv, iv zv, rv a899, .val (.long j4), .second, .val (.long j5), .second, .unset, .unset, .unset, .unset, .unset]) rfl) ?_
      refine go (fun _ => XT.lload XJ.here hx rfl (hb hby at_82) rfl) ?_
      show Ends p e below s _ _ _ TJ (mkF m 84 #[iv i0, iv i1, iv i2, iv i3, .val (.long j4), .second, .val (.long j5), .second, iv (3 : Int32), iv xv, iv yv, iv zv, rv a899, .val (.long j4), .second, .val (.long j5), .second, .unset, .unset, .unset, .unset, .unset] [(.long j4)])
      refine go (fun _ => Jvm.Stand.ldc2J XJ hx hown (mvT hZ (hwi hw 59 rfl)) rfl (hb hby at_84)) ?_
      show Ends p e below s _ _ _ TJ (mkF m 87 #[iv i0, iv i1, iv i2, iv i3, .val (.long j4), .second, .val (.long j5), .second, iv (3 : Int32), iv xv, iv yv, iv zv, rv a899, .val (.long j4), .second, .val (.long j5), .second, .unset, .unset, .unset, .unset, .unset] [(.long (-1 : Int64)), (.long j4)])
      refine go (fun _ => XT.lxor XJ.here hx rfl (hb hby at_87) rfl) ?_
      refine go (fun _ => XT.lstore XJ.here hx rfl (hb hby at_88) rfl (l' := #[iv i0, iv i1, iv i2, iv i3, .val (.long j4), .second, .val (.long j5), .second, iv (3 : Int32), iv xv, iv yv, iv zv, rv a899, .val (.long j4), .second, .val (.long j5), .second, .val (.long (j4 ^^^ (-1 : Int64))), .second, .unset, .unset, .unset]) rfl) ?_
      refine go (fun _ => XT.lload XJ.here hx rfl (hb hby at_90) rfl) ?_
      refine go (fun _ => XT.lload XJ.here hx rfl (hb hby at_92) rfl) ?_
      refine go (fun _ => XT.lxor XJ.here hx rfl (hb hby at_94) rfl) ?_
      refine go (fun _ => XT.lstore XJ.here hx rfl (hb hby at_95) rfl (l' := #[iv i0, iv i1, iv i2, iv i3, .val (.long j4), .second, .val (.long j5), .second, iv (3 : Int32), iv xv, iv yv, iv zv, rv a899, .val (.long j4), .second, .val (.long j5), .second, .val (.long (j4 ^^^ (-1 : Int64))), .second, .val (.long (j4 ^^^ j5)), .second, .unset]) rfl) ?_
      show Ends p e below s _ _ _ TJ (mkF m 97 #[iv i0, iv i1, iv i2, iv i3, .val (.long j4), .second, .val (.long j5), .second, iv (3 : Int32), iv xv, iv yv, iv zv, rv a899, .val (.long j4), .second, .val (.long j5), .second, .val (.long (j4 ^^^ (-1 : Int64))), .second, .val (.long (j4 ^^^ j5)), .second, .unset] [])
      refine go (fun _ => XT.iconstV XJ.here hx rfl (4 : Int32) (hb hby at_97) (by decide)) ?_
      show Ends p e below s _ _ _ TJ (mkF m 98 #[iv i0, iv i1, iv i2, iv i3, .val (.long j4), .second, .val (.long j5), .second, iv (3 : Int32), iv xv, iv yv, iv zv, rv a899, .val (.long j4), .second, .val (.long j5), .second, .val (.long (j4 ^^^ (-1 : Int64))), .second, .val (.long (j4 ^^^ j5)), .second, .unset] [(.int (4 : Int32))])
      obtain ⟨T1000, h1000, k1000, X1000, e1000, E1000, A1000, s1000⟩ := newP XJ hx hZ (hwi hw 57 rfl) eJ (g := (mkF m 98 #[iv i0, iv i1, iv i2, iv i3, .val (.long j4), .second, .val (.long j5), .second, iv (3 : Int32), iv xv, iv yv, iv zv, rv a899, .val (.long j4), .second, .val (.long j5), .second, .val (.long (j4 ^^^ (-1 : Int64))), .second, .val (.long (j4 ^^^ j5)), .second, .unset] [(.int (4 : Int32))])) rfl (hb hby at_98) rfl (by decide) (cap := 4) (by decide) (by decide) (by decide) (by decide)
      obtain ⟨a1000, g1000⟩ : ∃ z : Addr, z = hJ.size := ⟨_, rfl⟩
      have n1001 : a899 ≠ a1000 := fun q => absurd (EJ.lt) (by rw [q, g1000]; exact Nat.lt_irrefl _)
      have n1002 : aiJ ≠ a1000 := fun q => absurd (PJ4.lt) (by rw [q, g1000]; exact Nat.lt_irrefl _)
      have n1003 : awJ ≠ a1000 := fun q => absurd (PJ5.lt) (by rw [q, g1000]; exact Nat.lt_irrefl _)
      have f1000 : Z.heap.size ≤ a1000 := by rw [g1000]; exact (OJ).1
      rw [← g1000] at A1000 s1000
      have O1004 : Ext Z.heap h1000 := xx OJ E1000
      have V1000 : Arv Z h1000 a1000 k1000 .long (4 : Int32) [(.long (0 : Int64)), (.long (0 : Int64)), (.long (0 : Int64)), (.long (0 : Int64))] (.long 0) := Arv.pad (Arv.new A1000 (by decide)) (pad_rep [] _ 4)
      refine go s1000 ?_
      show Ends p e below s _ _ _ T1000 (mkF m 100 #[iv i0, iv i1, iv i2, iv i3, .val (.long j4), .second, .val (.long j5), .second, iv (3 : Int32), iv xv, iv yv, iv zv, rv a899, .val (.long j4), .second, .val (.long j5), .second, .val (.long (j4 ^^^ (-1 : Int64))), .second, .val (.long (j4 ^^^ j5)), .second, .unset] [(.ref a1000)])
      refine go (fun _ => XS.dup X1000.here hx rfl (hb hby at_100) rfl rfl) ?_
      refine go (fun _ => XT.iconstV X1000.here hx rfl (0 : Int32) (hb hby at_101) (by decide)) ?_
      refine go (fun _ => XT.lload X1000.here hx rfl (hb hby at_102) rfl) ?_
      show Ends p e below s _ _ _ T1000 (mkF m 104 #[iv i0, iv i1, iv i2, iv i3, .val (.long j4), .second, .val (.long j5), .second, iv (3 : Int32), iv xv, iv yv, iv zv, rv a899, .val (.long j4), .second, .val (.long j5), .second, .val (.long (j4 ^^^ (-1 : Int64))), .second, .val (.long (j4 ^^^ j5)), .second, .unset] [(.long j4), (.int (0 : Int32)), (.ref a1000), (.ref a1000)])
      obtain ⟨cl1005, A1005, q1005, S1005, M1005, H1005, G1005⟩ := id V1000
      obtain ⟨T1005, h1005, X1005, e1005, W1005, s1005⟩ := stJ X1000 hx hZ e1000 A1005 (j := (0 : Int32)) (inb_of S1005 (by decide)) (g := (mkF m 104 #[iv i0, iv i1, iv i2, iv i3, .val (.long j4), .second, .val (.long j5), .second, iv (3 : Int32), iv xv, iv yv, iv zv, rv a899, .val (.long j4), .second, .val (.long j5), .second, .val (.long (j4 ^^^ (-1 : Int64))), .second, .val (.long (j4 ^^^ j5)), .second, .unset] [(.long j4), (.int (0 : Int32)), (.ref a1000), (.ref a1000)])) rfl rfl (hb hby at_104)
      have N1005 := Fr.snoc X1005 NJ f1000
      have O1006 : Ext Z.heap h1005 := xw O1004 W1005 f1000
      have V1005 : Arv Z h1005 a1000 k1000 .long (4 : Int32) [(.long j4), (.long (0 : Int64)), (.long (0 : Int64)), (.long (0 : Int64))] (.long 0) := Arv.set A1005 q1005 S1005 M1005 H1005 G1005 rfl W1005 0 (by decide) (Nat.le_of_ble_eq_true rfl)
      refine go s1005 ?_
      show Ends p e below s _ _ _ T1005 (mkF m 105 #[iv i0, iv i1, iv i2, iv i3, .val (.long j4), .second, .val (.long j5), .second, iv (3 : Int32), iv xv, iv yv, iv zv, rv a899, .val (.long j4), .second, .val (.long j5), .second, .val (.long (j4 ^^^ (-1 : Int64))), .second, .val (.long (j4 ^^^ j5)), .second, .unset] [(.ref a1000)])
      refine go (fun _ => XS.dup X1005.here hx rfl (hb hby at_105) rfl rfl) ?_
      refine go (fun _ => XT.iconstV X1005.here hx rfl (1 : Int32) (hb hby at_106) (by decide)) ?_
      refine go (fun _ => XT.lload X1005.here hx rfl (hb hby at_107) rfl) ?_
      show Ends p e below s _ _ _ T1005 (mkF m 109 #[iv i0, iv i1, iv i2, iv i3, .val (.long j4), .second, .val (.long j5), .second, iv (3 : Int32), iv xv, iv yv, iv zv, rv a899, .val (.long j4), .second, .val (.long j5), .second, .val (.long (j4 ^^^ (-1 : Int64))), .second, .val (.long (j4 ^^^ j5)), .second, .unset] [(.long j5), (.int (1 : Int32)), (.ref a1000), (.ref a1000)])
      obtain ⟨cl1007, A1007, q1007, S1007, M1007, H1007, G1007⟩ := id V1005
      obtain ⟨T1007, h1007, X1007, e1007, W1007, s1007⟩ := stJ X1005 hx hZ e1005 A1007 (j := (1 : Int32)) (inb_of S1007 (by decide)) (g := (mkF m 109 #[iv i0, iv i1, iv i2, iv i3, .val (.long j4), .second, .val (.long j5), .second, iv (3 : Int32), iv xv, iv yv, iv zv, rv a899, .val (.long j4), .second, .val (.long j5), .second, .val (.long (j4 ^^^ (-1 : Int64))), .second, .val (.long (j4 ^^^ j5)), .second, .unset] [(.long j5), (.int (1 : Int32)), (.ref a1000), (.ref a1000)])) rfl rfl (hb hby at_109)
      have N1007 := Fr.snoc X1007 N1005 f1000
      have O1008 : Ext Z.heap h1007 := xw O1006 W1007 f1000
      have V1007 : Arv Z h1007 a1000 k1000 .long (4 : Int32) [(.long j4), (.long j5), (.long (0 : Int64)), (.long (0 : Int64))] (.long 0) := Arv.set A1007 q1007 S1007 M1007 H1007 G1007 rfl W1007 1 (by decide) (Nat.le_of_ble_eq_true rfl)
      refine go s1007 ?_
      show Ends p e below s _ _ _ T1007 (mkF m 110 #[iv i0, iv i1, iv i2, iv i3, .val (.long j4), .second, .val (.long j5), .second, iv (3 : Int32), iv xv, iv yv, iv zv, rv a899, .val (.long j4), .second, .val (.long j5), .second, .val (.long (j4 ^^^ (-1 : Int64))), .second, .val (.long (j4 ^^^ j5)), .second, .unset] [(.ref a1000)])
      refine go (fun _ => XS.dup X1007.here hx rfl (hb hby at_110) rfl rfl) ?_
      refine go (fun _ => XT.iconstV X1007.here hx rfl (2 : Int32) (hb hby at_111) (by decide)) ?_
      refine go (fun _ => XT.lload X1007.here hx rfl (hb hby at_112) rfl) ?_
      show Ends p e below s _ _ _ T1007 (mkF m 114 #[iv i0, iv i1, iv i2, iv i3, .val (.long j4), .second, .val (.long j5), .second, iv (3 : Int32), iv xv, iv yv, iv zv, rv a899, .val (.long j4), .second, .val (.long j5), .second, .val (.long (j4 ^^^ (-1 : Int64))), .second, .val (.long (j4 ^^^ j5)), .second, .unset] [(.long (j4 ^^^ (-1 : Int64))), (.int (2 : Int32)), (.ref a1000), (.ref a1000)])
      obtain ⟨cl1009, A1009, q1009, S1009, M1009, H1009, G1009⟩ := id V1007
      obtain ⟨T1009, h1009, X1009, e1009, W1009, s1009⟩ := stJ X1007 hx hZ e1007 A1009 (j := (2 : Int32)) (inb_of S1009 (by decide)) (g := (mkF m 114 #[iv i0, iv i1, iv i2, iv i3, .val (.long j4), .second, .val (.long j5), .second, iv (3 : Int32), iv xv, iv yv, iv zv, rv a899, .val (.long j4), .second, .val (.long j5), .second, .val (.long (j4 ^^^ (-1 : Int64))), .second, .val (.long (j4 ^^^ j5)), .second, .unset] [(.long (j4 ^^^ (-1 : Int64))), (.int (2 : Int32)), (.ref a1000), (.ref a1000)])) rfl rfl (hb hby at_114)
      have N1009 := Fr.snoc X1009 N1007 f1000
      have O1010 : Ext Z.heap h1009 := xw O1008 W1009 f1000
      have V1009 : Arv Z h1009 a1000 k1000 .long (4 : Int32) [(.long j4), (.long j5), (.long (j4 ^^^ (-1 : Int64))), (.long (0 : Int64))] (.long 0) := Arv.set A1009 q1009 S1009 M1009 H1009 G1009 rfl W1009 2 (by decide) (Nat.le_of_ble_eq_true rfl)
      refine go s1009 ?_
      show Ends p e below s _ _ _ T1009 (mkF m 115 #[iv i0, iv i1, iv i2, iv i3, .val (.long j4), .second, .val (.long j5), .second, iv (3 : Int32), iv xv, iv yv, iv zv, rv a899, .val (.long j4), .second, .val (.long j5), .second, .val (.long (j4 ^^^ (-1 : Int64))), .second, .val (.long (j4 ^^^ j5)), .second, .unset] [(.ref a1000)])
      refine go (fun _ => XS.dup X1009.here hx rfl (hb hby at_115) rfl rfl) ?_
      refine go (fun _ => XT.iconstV X1009.here hx rfl (3 : Int32) (hb hby at_116) (by decide)) ?_
      refine go (fun _ => XT.lload X1009.here hx rfl (hb hby at_117) rfl) ?_
      show Ends p e below s _ _ _ T1009 (mkF m 119 #[iv i0, iv i1, iv i2, iv i3, .val (.long j4), .second, .val (.long j5), .second, iv (3 : Int32), iv xv, iv yv, iv zv, rv a899, .val (.long j4), .second, .val (.long j5), .second, .val (.long (j4 ^^^ (-1 : Int64))), .second, .val (.long (j4 ^^^ j5)), .second, .unset] [(.long (j4 ^^^ j5)), (.int (3 : Int32)), (.ref a1000), (.ref a1000)])
      obtain ⟨cl1011, A1011, q1011, S1011, M1011, H1011, G1011⟩ := id V1009
      obtain ⟨T1011, h1011, X1011, e1011, W1011, s1011⟩ := stJ X1009 hx hZ e1009 A1011 (j := (3 : Int32)) (inb_of S1011 (by decide)) (g := (mkF m 119 #[iv i0, iv i1, iv i2, iv i3, .val (.long j4), .second, .val (.long j5), .second, iv (3 : Int32), iv xv, iv yv, iv zv, rv a899, .val (.long j4), .second, .val (.long j5), .second, .val (.long (j4 ^^^ (-1 : Int64))), .second, .val (.long (j4 ^^^ j5)), .second, .unset] [(.long (j4 ^^^ j5)), (.int (3 : Int32)), (.ref a1000), (.ref a1000)])) rfl rfl (hb hby at_119)
      have N1011 := Fr.snoc X1011 N1009 f1000
      have O1012 : Ext Z.heap h1011 := xw O1010 W1011 f1000
      have V1011 : Arv Z h1011 a1000 k1000 .long (4 : Int32) [(.long j4), (.long j5), (.long (j4 ^^^ (-1 : Int64))), (.long (j4 ^^^ j5))] (.long 0) := Arv.set A1011 q1011 S1011 M1011 H1011 G1011 rfl W1011 3 (by decide) (Nat.le_of_ble_eq_true rfl)
      refine go s1011 ?_
      show Ends p e below s _ _ _ T1011 (mkF m 120 #[iv i0, iv i1, iv i2, iv i3, .val (.long j4), .second, .val (.long j5), .second, iv (3 : Int32), iv xv, iv yv, iv zv, rv a899, .val (.long j4), .second, .val (.long j5), .second, .val (.long (j4 ^^^ (-1 : Int64))), .second, .val (.long (j4 ^^^ j5)), .second, .unset] [(.ref a1000)])
      refine go (fun _ => XS.astore X1011.here hx rfl (hb hby at_120) rfl rfl (l' := #[iv i0, iv i1, iv i2, iv i3, .val (.long j4), .second, .val (.long j5), .second, iv (3 : Int32), iv xv, iv yv, iv zv, rv a899, .val (.long j4), .second, .val (.long j5), .second, .val (.long (j4 ^^^ (-1 : Int64))), .second, .val (.long (j4 ^^^ j5)), .second, rv a1000]) rfl) ?_
      refine go (fun _ => XS.aload X1011.here hx rfl (hb hby at_122) rfl rfl) ?_
      refine go (fun _ => XS.aload X1011.here hx rfl (hb hby at_124) rfl rfl) ?_
      show Ends p e below s _ _ _ T1011 (mkF m 126 #[iv i0, iv i1, iv i2, iv i3, .val (.long j4), .second, .val (.long j5), .second, iv (3 : Int32), iv xv, iv yv, iv zv, rv a899, .val (.long j4), .second, .val (.long j5), .second, .val (.long (j4 ^^^ (-1 : Int64))), .second, .val (.long (j4 ^^^ j5)), .second, rv a1000] [(.ref a1000), (.ref a899)])
      have F1013 := (Fld.other W1011 (Fld.other W1009 (Fld.other W1007 (Fld.other W1005 (Fld.ext E1000 PJ0) (Or.inl n1001)) (Or.inl n1001)) (Or.inl n1001)) (Or.inl n1001))
      have F1014 := (Fld.other W1011 (Fld.other W1009 (Fld.other W1007 (Fld.other W1005 (Fld.ext E1000 PJ1) (Or.inl n1001)) (Or.inl n1001)) (Or.inl n1001)) (Or.inl n1001))
      have F1015 := (Fld.other W1011 (Fld.other W1009 (Fld.other W1007 (Fld.other W1005 (Fld.ext E1000 PJ2) (Or.inl n1001)) (Or.inl n1001)) (Or.inl n1001)) (Or.inl n1001))
      have F1016 := (Fld.other W1011 (Fld.other W1009 (Fld.other W1007 (Fld.other W1005 (Fld.ext E1000 PJ3) (Or.inl n1001)) (Or.inl n1001)) (Or.inl n1001)) (Or.inl n1001))
      have F1017 := (Arv.other (Arv.other (Arv.other (Arv.other (Arv.ext PJ4 E1000) W1005 n1002) W1007 n1002) W1009 n1002) W1011 n1002)
      have F1018 := (Arv.other (Arv.other (Arv.other (Arv.other (Arv.ext PJ5 E1000) W1005 n1003) W1007 n1003) W1009 n1003) W1011 n1003)
      have F1019 := (Exa.wr W1011 (Exa.wr W1009 (Exa.wr W1007 (Exa.wr W1005 (Exa.ext E1000 EJ)))))
      have VL1020 : Arv Z h1011 a1000 k1000 .long (4 : Int32) (own_b (own_f j4 j5 (j4 ^^^ (-1 : Int64)) (j4 ^^^ j5))) (.long 0) := V1011
      refine cVirt X1011 hx hZ hown (by rw [hml]; rfl) e1011 (hwi hw 60 rfl) (hwi hw 61 rfl) (hwi hw 63 rfl) (hwi hw 62 rfl) (hwi hw 2 rfl) (hwi hw 64 rfl) (notFace_of_selects (args := #[]) (mvT hZ (hwi hw 63 rfl))) a899 F1019 [(.ref a1000)] [] rfl (rm_add3_0 hw a899 aiJ awJ kiJ kwJ ij0 ij1 ij2 wj0 wj1 wj2 a1000 k1000 (own_f j4 j5 (j4 ^^^ (-1 : Int64)) (j4 ^^^ j5)) _ O1012 f899 F1019 F1013 F1014 F1015 F1016 F1017 F1018 fiJ fwJ n1J n2J n3J VL1020 f1000 n1001 n1002 n1003 gj0 gj1 gj2) (hb hby at_126) rfl (lenOf pd_12 rfl) (by decide) (by decide) (Nat.le_of_ble_eq_true rfl) (by decide) (by decide) ?_
      rintro v1021 T1021 h1021 L1021 X1021 e1021 ⟨rfl, N1021, K1021, V1021⟩
      have N1021a := Fr.app N1011 N1021
      have O1022 : Ext Z.heap h1021 := xk O1012 K1021 (allS f1000 all0)
      show Ends p e below s _ _ _ T1021 (mkF m 129 #[iv i0, iv i1, iv i2, iv i3, .val (.long j4), .second, .val (.long j5), .second, iv (3 : Int32), iv xv, iv yv, iv zv, rv a899, .val (.long j4), .second, .val (.long j5), .second, .val (.long (j4 ^^^ (-1 : Int64))), .second, .val (.long (j4 ^^^ j5)), .second, rv a1000] [])
      refine go (fun _ => XS.aload X1021.here hx rfl (hb hby at_129) rfl rfl) ?_
      refine go (fun _ => XT.iconstV X1021.here hx rfl (0 : Int32) (hb hby at_131) (by decide)) ?_
      show Ends p e below s _ _ _ T1021 (mkF m 132 #[iv i0, iv i1, iv i2, iv i3, .val (.long j4), .second, .val (.long j5), .second, iv (3 : Int32), iv xv, iv yv, iv zv, rv a899, .val (.long j4), .second, .val (.long j5), .second, .val (.long (j4 ^^^ (-1 : Int64))), .second, .val (.long (j4 ^^^ j5)), .second, rv a1000] [(.int (0 : Int32)), (.ref a1000)])
      obtain ⟨cl1023, A1023, -, S1023, M1023, H1023, -⟩ := id V1021
      have B1023 := inb_of S1023 (j := (0 : Int32)) (by decide)
      refine go (fun _ => X1021.laload hx (j := (0 : Int32)) (v := (.long ((own_add (own_add (own_add (own_f j4 j5 (j4 ^^^ (-1 : Int64)) (j4 ^^^ j5)) ij0.toNatClampNeg wj0) ij1.toNatClampNeg wj1) ij2.toNatClampNeg wj2) 0))) (by rw [e1021]; exact A1023.1) (State.isArrayOf_alike hZ.alike A1023.2.1) A1023.2.2 B1023 (H1023.at B1023 rfl) (g := (mkF m 132 #[iv i0, iv i1, iv i2, iv i3, .val (.long j4), .second, .val (.long j5), .second, iv (3 : Int32), iv xv, iv yv, iv zv, rv a899, .val (.long j4), .second, .val (.long j5), .second, .val (.long (j4 ^^^ (-1 : Int64))), .second, .val (.long (j4 ^^^ j5)), .second, rv a1000] [(.int (0 : Int32)), (.ref a1000)])) rfl rfl (hb hby at_132) _) ?_
      show Ends p e below s _ _ _ T1021 (mkF m 133 #[iv i0, iv i1, iv i2, iv i3, .val (.long j4), .second, .val (.long j5), .second, iv (3 : Int32), iv xv, iv yv, iv zv, rv a899, .val (.long j4), .second, .val (.long j5), .second, .val (.long (j4 ^^^ (-1 : Int64))), .second, .val (.long (j4 ^^^ j5)), .second, rv a1000] [(.long ((own_add (own_add (own_add (own_f j4 j5 (j4 ^^^ (-1 : Int64)) (j4 ^^^ j5)) ij0.toNatClampNeg wj0) ij1.toNatClampNeg wj1) ij2.toNatClampNeg wj2) 0))])
      refine go (fun _ => XT.iconstV X1021.here hx rfl (0 : Int32) (hb hby at_133) (by decide)) ?_
      refine go (fun _ => XT.lload X1021.here hx rfl (hb hby at_134) rfl) ?_
      refine go (fun _ => XS.iload X1021.here hx rfl (hb hby at_136) rfl) ?_
      refine go (fun _ => XS.iload X1021.here hx rfl (hb hby at_138) rfl) ?_
      refine go (fun _ => XS.iload X1021.here hx rfl (hb hby at_140) rfl) ?_
      refine go (fun _ => XS.iload X1021.here hx rfl (hb hby at_142) rfl) ?_
      show Ends p e below s _ _ _ T1021 (mkF m 144 #[iv i0, iv i1, iv i2, iv i3, .val (.long j4), .second, .val (.long j5), .second, iv (3 : Int32), iv xv, iv yv, iv zv, rv a899, .val (.long j4), .second, .val (.long j5), .second, .val (.long (j4 ^^^ (-1 : Int64))), .second, .val (.long (j4 ^^^ j5)), .second, rv a1000] [(.int zv), (.int yv), (.int xv), (.int (3 : Int32)), (.long j4), (.int (0 : Int32)), (.long ((own_add (own_add (own_add (own_f j4 j5 (j4 ^^^ (-1 : Int64)) (j4 ^^^ j5)) ij0.toNatClampNeg wj0) ij1.toNatClampNeg wj1) ij2.toNatClampNeg wj2) 0))])
      refine cStat X1021 hx hZ hown (by rw [hml]; rfl) e1021 (hwi hw 65 rfl) (hwi hw 66 rfl) (hwi hw 67 rfl) (hwi hw 68 rfl) [(.int (0 : Int32)), (.long j4), (.int (3 : Int32)), (.int xv), (.int yv), (.int zv)] [(.long ((own_add (own_add (own_add (own_f j4 j5 (j4 ^^^ (-1 : Int64)) (j4 ^^^ j5)) ij0.toNatClampNeg wj0) ij1.toNatClampNeg wj1) ij2.toNatClampNeg wj2) 0))] rfl (rm_exp3 hw (0 : Int32) j4 xv yv zv _) (hb hby at_144) rfl (lenOf pd_13 rfl) (by decide) (by decide) (Nat.le_of_ble_eq_true rfl) (by decide) (by decide) ?_
      rintro v1024 T1024 h1024 L1024 X1024 e1024 ⟨rfl, N1024, rfl⟩
      have N1024a := Fr.app N1021a N1024
      show Ends p e below s _ _ _ T1024 (mkF m 147 #[iv i0, iv i1, iv i2, iv i3, .val (.long j4), .second, .val (.long j5), .second, iv (3 : Int32), iv xv, iv yv, iv zv, rv a899, .val (.long j4), .second, .val (.long j5), .second, .val (.long (j4 ^^^ (-1 : Int64))), .second, .val (.long (j4 ^^^ j5)), .second, rv a1000] [(.long (own_acc (XT.ushr zv (6 : Int32)) (0 : Int32) (own_acc (XT.ushr yv (6 : Int32)) (0 : Int32) (own_acc (XT.ushr xv (6 : Int32)) (0 : Int32) j4 ((1 : Int64) <<< (xv.toInt64 &&& 63))) ((1 : Int64) <<< (yv.toInt64 &&& 63))) ((1 : Int64) <<< (zv.toInt64 &&& 63)))), (.long ((own_add (own_add (own_add (own_f j4 j5 (j4 ^^^ (-1 : Int64)) (j4 ^^^ j5)) ij0.toNatClampNeg wj0) ij1.toNatClampNeg wj1) ij2.toNatClampNeg wj2) 0))])
      refine go (fun _ => XT.lcmp X1024.here hx rfl (hb hby at_147) rfl) ?_
      show Ends p e below s _ _ _ T1024 (mkF m 148 #[iv i0, iv i1, iv i2, iv i3, .val (.long j4), .second, .val (.long j5), .second, iv (3 : Int32), iv xv, iv yv, iv zv, rv a899, .val (.long j4), .second, .val (.long j5), .second, .val (.long (j4 ^^^ (-1 : Int64))), .second, .val (.long (j4 ^^^ j5)), .second, rv a1000] [(.int (XT.cmpL ((own_add (own_add (own_add (own_f j4 j5 (j4 ^^^ (-1 : Int64)) (j4 ^^^ j5)) ij0.toNatClampNeg wj0) ij1.toNatClampNeg wj1) ij2.toNatClampNeg wj2) 0) (own_acc (XT.ushr zv (6 : Int32)) (0 : Int32) (own_acc (XT.ushr yv (6 : Int32)) (0 : Int32) (own_acc (XT.ushr xv (6 : Int32)) (0 : Int32) j4 ((1 : Int64) <<< (xv.toInt64 &&& 63))) ((1 : Int64) <<< (yv.toInt64 &&& 63))) ((1 : Int64) <<< (zv.toInt64 &&& 63)))))])
      refine go (fun _ => XS.ifNo X1024.here hx rfl (hb hby at_148) rfl (XT.ll_ne_f qj0)) ?_
      show Ends p e below s _ _ _ T1024 (mkF m 151 #[iv i0, iv i1, iv i2, iv i3, .val (.long j4), .second, .val (.long j5), .second, iv (3 : Int32), iv xv, iv yv, iv zv, rv a899, .val (.long j4), .second, .val (.long j5), .second, .val (.long (j4 ^^^ (-1 : Int64))), .second, .val (.long (j4 ^^^ j5)), .second, rv a1000] [])
      refine go (fun _ => XS.aload X1024.here hx rfl (hb hby at_151) rfl rfl) ?_
      refine go (fun _ => XT.iconstV X1024.here hx rfl (1 : Int32) (hb hby at_153) (by decide)) ?_
      show Ends p e below s _ _ _ T1024 (mkF m 154 #[iv i0, iv i1, iv i2, iv i3, .val (.long j4), .second, .val (.long j5), .second, iv (3 : Int32), iv xv, iv yv, iv zv, rv a899, .val (.long j4), .second, .val (.long j5), .second, .val (.long (j4 ^^^ (-1 : Int64))), .second, .val (.long (j4 ^^^ j5)), .second, rv a1000] [(.int (1 : Int32)), (.ref a1000)])
      obtain ⟨cl1025, A1025, -, S1025, M1025, H1025, -⟩ := id V1021
      have B1025 := inb_of S1025 (j := (1 : Int32)) (by decide)
      refine go (fun _ => X1024.laload hx (j := (1 : Int32)) (v := (.long ((own_add (own_add (own_add (own_f j4 j5 (j4 ^^^ (-1 : Int64)) (j4 ^^^ j5)) ij0.toNatClampNeg wj0) ij1.toNatClampNeg wj1) ij2.toNatClampNeg wj2) 1))) (by rw [e1024]; exact A1025.1) (State.isArrayOf_alike hZ.alike A1025.2.1) A1025.2.2 B1025 (H1025.at B1025 rfl) (g := (mkF m 154 #[iv i0, iv i1, iv i2, iv i3, .val (.long j4), .second, .val (.long j5), .second, iv (3 : Int32), iv xv, iv yv, iv zv, rv a899, .val (.long j4), .second, .val (.long j5), .second, .val (.long (j4 ^^^ (-1 : Int64))), .second, .val (.long (j4 ^^^ j5)), .second, rv a1000] [(.int (1 : Int32)), (.ref a1000)])) rfl rfl (hb hby at_154) _) ?_
      show Ends p e below s _ _ _ T1024 (mkF m 155 #[iv i0, iv i1, iv i2, iv i3, .val (.long j4), .second, .val (.long j5), .second, iv (3 : Int32), iv xv, iv yv, iv zv, rv a899, .val (.long j4), .second, .val (.long j5), .second, .val (.long (j4 ^^^ (-1 : Int64))), .second, .val (.long (j4 ^^^ j5)), .second, rv a1000] [(.long ((own_add (own_add (own_add (own_f j4 j5 (j4 ^^^ (-1 : Int64)) (j4 ^^^ j5)) ij0.toNatClampNeg wj0) ij1.toNatClampNeg wj1) ij2.toNatClampNeg wj2) 1))])
      refine go (fun _ => XT.iconstV X1024.here hx rfl (1 : Int32) (hb hby at_155) (by decide)) ?_
      refine go (fun _ => XT.lload X1024.here hx rfl (hb hby at_156) rfl) ?_
      refine go (fun _ => XS.iload X1024.here hx rfl (hb hby at_158) rfl) ?_
      refine go (fun _ => XS.iload X1024.here hx rfl (hb hby at_160) rfl) ?_
      refine go (fun _ => XS.iload X1024.here hx rfl (hb hby at_162) rfl) ?_
      refine go (fun _ => XS.iload X1024.here hx rfl (hb hby at_164) rfl) ?_
      show Ends p e below s _ _ _ T1024 (mkF m 166 #[iv i0, iv i1, iv i2, iv i3, .val (.long j4), .second, .val (.long j5), .second, iv (3 : Int32), iv xv, iv yv, iv zv, rv a899, .val (.long j4), .second, .val (.long j5), .second, .val (.long (j4 ^^^ (-1 : Int64))), .second, .val (.long (j4 ^^^ j5)), .second, rv a1000] [(.int zv), (.int yv), (.int xv), (.int (3 : Int32)), (.long j5), (.int (1 : Int32)), (.long ((own_add (own_add (own_add (own_f j4 j5 (j4 ^^^ (-1 : Int64)) (j4 ^^^ j5)) ij0.toNatClampNeg wj0) ij1.toNatClampNeg wj1) ij2.toNatClampNeg wj2) 1))])
      refine cStat X1024 hx hZ hown (by rw [hml]; rfl) e1024 (hwi hw 65 rfl) (hwi hw 66 rfl) (hwi hw 67 rfl) (hwi hw 68 rfl) [(.int (1 : Int32)), (.long j5), (.int (3 : Int32)), (.int xv), (.int yv), (.int zv)] [(.long ((own_add (own_add (own_add (own_f j4 j5 (j4 ^^^ (-1 : Int64)) (j4 ^^^ j5)) ij0.toNatClampNeg wj0) ij1.toNatClampNeg wj1) ij2.toNatClampNeg wj2) 1))] rfl (rm_exp3 hw (1 : Int32) j5 xv yv zv _) (hb hby at_166) rfl (lenOf pd_13 rfl) (by decide) (by decide) (Nat.le_of_ble_eq_true rfl) (by decide) (by decide) ?_
      rintro v1026 T1026 h1026 L1026 X1026 e1026 ⟨rfl, N1026, rfl⟩
      have N1026a := Fr.app N1024a N1026
      show Ends p e below s _ _ _ T1026 (mkF m 169 #[iv i0, iv i1, iv i2, iv i3, .val (.long j4), .second, .val (.long j5), .second, iv (3 : Int32), iv xv, iv yv, iv zv, rv a899, .val (.long j4), .second, .val (.long j5), .second, .val (.long (j4 ^^^ (-1 : Int64))), .second, .val (.long (j4 ^^^ j5)), .second, rv a1000] [(.long (own_acc (XT.ushr zv (6 : Int32)) (1 : Int32) (own_acc (XT.ushr yv (6 : Int32)) (1 : Int32) (own_acc (XT.ushr xv (6 : Int32)) (1 : Int32) j5 ((1 : Int64) <<< (xv.toInt64 &&& 63))) ((1 : Int64) <<< (yv.toInt64 &&& 63))) ((1 : Int64) <<< (zv.toInt64 &&& 63)))), (.long ((own_add (own_add (own_add (own_f j4 j5 (j4 ^^^ (-1 : Int64)) (j4 ^^^ j5)) ij0.toNatClampNeg wj0) ij1.toNatClampNeg wj1) ij2.toNatClampNeg wj2) 1))])
      refine go (fun _ => XT.lcmp X1026.here hx rfl (hb hby at_169) rfl) ?_
      show Ends p e below s _ _ _ T1026 (mkF m 170 #[iv i0, iv i1, iv i2, iv i3, .val (.long j4), .second, .val (.long j5), .second, iv (3 : Int32), iv xv, iv yv, iv zv, rv a899, .val (.long j4), .second, .val (.long j5), .second, .val (.long (j4 ^^^ (-1 : Int64))), .second, .val (.long (j4 ^^^ j5)), .second, rv a1000] [(.int (XT.cmpL ((own_add (own_add (own_add (own_f j4 j5 (j4 ^^^ (-1 : Int64)) (j4 ^^^ j5)) ij0.toNatClampNeg wj0) ij1.toNatClampNeg wj1) ij2.toNatClampNeg wj2) 1) (own_acc (XT.ushr zv (6 : Int32)) (1 : Int32) (own_acc (XT.ushr yv (6 : Int32)) (1 : Int32) (own_acc (XT.ushr xv (6 : Int32)) (1 : Int32) j5 ((1 : Int64) <<< (xv.toInt64 &&& 63))) ((1 : Int64) <<< (yv.toInt64 &&& 63))) ((1 : Int64) <<< (zv.toInt64 &&& 63)))))])
      refine go (fun _ => XS.ifNo X1026.here hx rfl (hb hby at_170) rfl (XT.ll_ne_f qj1)) ?_
      show Ends p e below s _ _ _ T1026 (mkF m 173 #[iv i0, iv i1, iv i2, iv i3, .val (.long j4), .second, .val (.long j5), .second, iv (3 : Int32), iv xv, iv yv, iv zv, rv a899, .val (.long j4), .second, .val (.long j5), .second, .val (.long (j4 ^^^ (-1 : Int64))), .second, .val (.long (j4 ^^^ j5)), .second, rv a1000] [])
      refine go (fun _ => XS.aload X1026.here hx rfl (hb hby at_173) rfl rfl) ?_
      refine go (fun _ => XT.iconstV X1026.here hx rfl (2 : Int32) (hb hby at_175) (by decide)) ?_
      show Ends p e below s _ _ _ T1026 (mkF m 176 #[iv i0, iv i1, iv i2, iv i3, .val (.long j4), .second, .val (.long j5), .second, iv (3 : Int32), iv xv, iv yv, iv zv, rv a899, .val (.long j4), .second, .val (.long j5), .second, .val (.long (j4 ^^^ (-1 : Int64))), .second, .val (.long (j4 ^^^ j5)), .second, rv a1000] [(.int (2 : Int32)), (.ref a1000)])
      obtain ⟨cl1027, A1027, -, S1027, M1027, H1027, -⟩ := id V1021
      have B1027 := inb_of S1027 (j := (2 : Int32)) (by decide)
      refine go (fun _ => X1026.laload hx (j := (2 : Int32)) (v := (.long ((own_add (own_add (own_add (own_f j4 j5 (j4 ^^^ (-1 : Int64)) (j4 ^^^ j5)) ij0.toNatClampNeg wj0) ij1.toNatClampNeg wj1) ij2.toNatClampNeg wj2) 2))) (by rw [e1026]; exact A1027.1) (State.isArrayOf_alike hZ.alike A1027.2.1) A1027.2.2 B1027 (H1027.at B1027 rfl) (g := (mkF m 176 #[iv i0, iv i1, iv i2, iv i3, .val (.long j4), .second, .val (.long j5), .second, iv (3 : Int32), iv xv, iv yv, iv zv, rv a899, .val (.long j4), .second, .val (.long j5), .second, .val (.long (j4 ^^^ (-1 : Int64))), .second, .val (.long (j4 ^^^ j5)), .second, rv a1000] [(.int (2 : Int32)), (.ref a1000)])) rfl rfl (hb hby at_176) _) ?_
      show Ends p e below s _ _ _ T1026 (mkF m 177 #[iv i0, iv i1, iv i2, iv i3, .val (.long j4), .second, .val (.long j5), .second, iv (3 : Int32), iv xv, iv yv, iv zv, rv a899, .val (.long j4), .second, .val (.long j5), .second, .val (.long (j4 ^^^ (-1 : Int64))), .second, .val (.long (j4 ^^^ j5)), .second, rv a1000] [(.long ((own_add (own_add (own_add (own_f j4 j5 (j4 ^^^ (-1 : Int64)) (j4 ^^^ j5)) ij0.toNatClampNeg wj0) ij1.toNatClampNeg wj1) ij2.toNatClampNeg wj2) 2))])
      refine go (fun _ => XT.iconstV X1026.here hx rfl (2 : Int32) (hb hby at_177) (by decide)) ?_
      refine go (fun _ => XT.lload X1026.here hx rfl (hb hby at_178) rfl) ?_
      refine go (fun _ => XS.iload X1026.here hx rfl (hb hby at_180) rfl) ?_
      refine go (fun _ => XS.iload X1026.here hx rfl (hb hby at_182) rfl) ?_
      refine go (fun _ => XS.iload X1026.here hx rfl (hb hby at_184) rfl) ?_
      refine go (fun _ => XS.iload X1026.here hx rfl (hb hby at_186) rfl) ?_
      show Ends p e below s _ _ _ T1026 (mkF m 188 #[iv i0, iv i1, iv i2, iv i3, .val (.long j4), .second, .val (.long j5), .second, iv (3 : Int32), iv xv, iv yv, iv zv, rv a899, .val (.long j4), .second, .val (.long j5), .second, .val (.long (j4 ^^^ (-1 : Int64))), .second, .val (.long (j4 ^^^ j5)), .second, rv a1000] [(.int zv), (.int yv), (.int xv), (.int (3 : Int32)), (.long (j4 ^^^ (-1 : Int64))), (.int (2 : Int32)), (.long ((own_add (own_add (own_add (own_f j4 j5 (j4 ^^^ (-1 : Int64)) (j4 ^^^ j5)) ij0.toNatClampNeg wj0) ij1.toNatClampNeg wj1) ij2.toNatClampNeg wj2) 2))])
      refine cStat X1026 hx hZ hown (by rw [hml]; rfl) e1026 (hwi hw 65 rfl) (hwi hw 66 rfl) (hwi hw 67 rfl) (hwi hw 68 rfl) [(.int (2 : Int32)), (.long (j4 ^^^ (-1 : Int64))), (.int (3 : Int32)), (.int xv), (.int yv), (.int zv)] [(.long ((own_add (own_add (own_add (own_f j4 j5 (j4 ^^^ (-1 : Int64)) (j4 ^^^ j5)) ij0.toNatClampNeg wj0) ij1.toNatClampNeg wj1) ij2.toNatClampNeg wj2) 2))] rfl (rm_exp3 hw (2 : Int32) (j4 ^^^ (-1 : Int64)) xv yv zv _) (hb hby at_188) rfl (lenOf pd_13 rfl) (by decide) (by decide) (Nat.le_of_ble_eq_true rfl) (by decide) (by decide) ?_
      rintro v1028 T1028 h1028 L1028 X1028 e1028 ⟨rfl, N1028, rfl⟩
      have N1028a := Fr.app N1026a N1028
      show Ends p e below s _ _ _ T1028 (mkF m 191 #[iv i0, iv i1, iv i2, iv i3, .val (.long j4), .second, .val (.long j5), .second, iv (3 : Int32), iv xv, iv yv, iv zv, rv a899, .val (.long j4), .second, .val (.long j5), .second, .val (.long (j4 ^^^ (-1 : Int64))), .second, .val (.long (j4 ^^^ j5)), .second, rv a1000] [(.long (own_acc (XT.ushr zv (6 : Int32)) (2 : Int32) (own_acc (XT.ushr yv (6 : Int32)) (2 : Int32) (own_acc (XT.ushr xv (6 : Int32)) (2 : Int32) (j4 ^^^ (-1 : Int64)) ((1 : Int64) <<< (xv.toInt64 &&& 63))) ((1 : Int64) <<< (yv.toInt64 &&& 63))) ((1 : Int64) <<< (zv.toInt64 &&& 63)))), (.long ((own_add (own_add (own_add (own_f j4 j5 (j4 ^^^ (-1 : Int64)) (j4 ^^^ j5)) ij0.toNatClampNeg wj0) ij1.toNatClampNeg wj1) ij2.toNatClampNeg wj2) 2))])
      refine go (fun _ => XT.lcmp X1028.here hx rfl (hb hby at_191) rfl) ?_
      show Ends p e below s _ _ _ T1028 (mkF m 192 #[iv i0, iv i1, iv i2, iv i3, .val (.long j4), .second, .val (.long j5), .second, iv (3 : Int32), iv xv, iv yv, iv zv, rv a899, .val (.long j4), .second, .val (.long j5), .second, .val (.long (j4 ^^^ (-1 : Int64))), .second, .val (.long (j4 ^^^ j5)), .second, rv a1000] [(.int (XT.cmpL ((own_add (own_add (own_add (own_f j4 j5 (j4 ^^^ (-1 : Int64)) (j4 ^^^ j5)) ij0.toNatClampNeg wj0) ij1.toNatClampNeg wj1) ij2.toNatClampNeg wj2) 2) (own_acc (XT.ushr zv (6 : Int32)) (2 : Int32) (own_acc (XT.ushr yv (6 : Int32)) (2 : Int32) (own_acc (XT.ushr xv (6 : Int32)) (2 : Int32) (j4 ^^^ (-1 : Int64)) ((1 : Int64) <<< (xv.toInt64 &&& 63))) ((1 : Int64) <<< (yv.toInt64 &&& 63))) ((1 : Int64) <<< (zv.toInt64 &&& 63)))))])
      refine go (fun _ => XS.ifNo X1028.here hx rfl (hb hby at_192) rfl (XT.ll_ne_f qj2)) ?_
      show Ends p e below s _ _ _ T1028 (mkF m 195 #[iv i0, iv i1, iv i2, iv i3, .val (.long j4), .second, .val (.long j5), .second, iv (3 : Int32), iv xv, iv yv, iv zv, rv a899, .val (.long j4), .second, .val (.long j5), .second, .val (.long (j4 ^^^ (-1 : Int64))), .second, .val (.long (j4 ^^^ j5)), .second, rv a1000] [])
      refine go (fun _ => XS.aload X1028.here hx rfl (hb hby at_195) rfl rfl) ?_
      refine go (fun _ => XT.iconstV X1028.here hx rfl (3 : Int32) (hb hby at_197) (by decide)) ?_
      show Ends p e below s _ _ _ T1028 (mkF m 198 #[iv i0, iv i1, iv i2, iv i3, .val (.long j4), .second, .val (.long j5), .second, iv (3 : Int32), iv xv, iv yv, iv zv, rv a899, .val (.long j4), .second, .val (.long j5), .second, .val (.long (j4 ^^^ (-1 : Int64))), .second, .val (.long (j4 ^^^ j5)), .second, rv a1000] [(.int (3 : Int32)), (.ref a1000)])
      obtain ⟨cl1029, A1029, -, S1029, M1029, H1029, -⟩ := id V1021
      have B1029 := inb_of S1029 (j := (3 : Int32)) (by decide)
      refine go (fun _ => X1028.laload hx (j := (3 : Int32)) (v := (.long ((own_add (own_add (own_add (own_f j4 j5 (j4 ^^^ (-1 : Int64)) (j4 ^^^ j5)) ij0.toNatClampNeg wj0) ij1.toNatClampNeg wj1) ij2.toNatClampNeg wj2) 3))) (by rw [e1028]; exact A1029.1) (State.isArrayOf_alike hZ.alike A1029.2.1) A1029.2.2 B1029 (H1029.at B1029 rfl) (g := (mkF m 198 #[iv i0, iv i1, iv i2, iv i3, .val (.long j4), .second, .val (.long j5), .second, iv (3 : Int32), iv xv, iv yv, iv zv, rv a899, .val (.long j4), .second, .val (.long j5), .second, .val (.long (j4 ^^^ (-1 : Int64))), .second, .val (.long (j4 ^^^ j5)), .second, rv a1000] [(.int (3 : Int32)), (.ref a1000)])) rfl rfl (hb hby at_198) _) ?_
      show Ends p e below s _ _ _ T1028 (mkF m 199 #[iv i0, iv i1, iv i2, iv i3, .val (.long j4), .second, .val (.long j5), .second, iv (3 : Int32), iv xv, iv yv, iv zv, rv a899, .val (.long j4), .second, .val (.long j5), .second, .val (.long (j4 ^^^ (-1 : Int64))), .second, .val (.long (j4 ^^^ j5)), .second, rv a1000] [(.long ((own_add (own_add (own_add (own_f j4 j5 (j4 ^^^ (-1 : Int64)) (j4 ^^^ j5)) ij0.toNatClampNeg wj0) ij1.toNatClampNeg wj1) ij2.toNatClampNeg wj2) 3))])
      refine go (fun _ => XT.iconstV X1028.here hx rfl (3 : Int32) (hb hby at_199) (by decide)) ?_
      refine go (fun _ => XT.lload X1028.here hx rfl (hb hby at_200) rfl) ?_
      refine go (fun _ => XS.iload X1028.here hx rfl (hb hby at_202) rfl) ?_
      refine go (fun _ => XS.iload X1028.here hx rfl (hb hby at_204) rfl) ?_
      refine go (fun _ => XS.iload X1028.here hx rfl (hb hby at_206) rfl) ?_
      refine go (fun _ => XS.iload X1028.here hx rfl (hb hby at_208) rfl) ?_
      show Ends p e below s _ _ _ T1028 (mkF m 210 #[iv i0, iv i1, iv i2, iv i3, .val (.long j4), .second, .val (.long j5), .second, iv (3 : Int32), iv xv, iv yv, iv zv, rv a899, .val (.long j4), .second, .val (.long j5), .second, .val (.long (j4 ^^^ (-1 : Int64))), .second, .val (.long (j4 ^^^ j5)), .second, rv a1000] [(.int zv), (.int yv), (.int xv), (.int (3 : Int32)), (.long (j4 ^^^ j5)), (.int (3 : Int32)), (.long ((own_add (own_add (own_add (own_f j4 j5 (j4 ^^^ (-1 : Int64)) (j4 ^^^ j5)) ij0.toNatClampNeg wj0) ij1.toNatClampNeg wj1) ij2.toNatClampNeg wj2) 3))])
      refine cStat X1028 hx hZ hown (by rw [hml]; rfl) e1028 (hwi hw 65 rfl) (hwi hw 66 rfl) (hwi hw 67 rfl) (hwi hw 68 rfl) [(.int (3 : Int32)), (.long (j4 ^^^ j5)), (.int (3 : Int32)), (.int xv), (.int yv), (.int zv)] [(.long ((own_add (own_add (own_add (own_f j4 j5 (j4 ^^^ (-1 : Int64)) (j4 ^^^ j5)) ij0.toNatClampNeg wj0) ij1.toNatClampNeg wj1) ij2.toNatClampNeg wj2) 3))] rfl (rm_exp3 hw (3 : Int32) (j4 ^^^ j5) xv yv zv _) (hb hby at_210) rfl (lenOf pd_13 rfl) (by decide) (by decide) (Nat.le_of_ble_eq_true rfl) (by decide) (by decide) ?_
      rintro v1030 T1030 h1030 L1030 X1030 e1030 ⟨rfl, N1030, rfl⟩
      have N1030a := Fr.app N1028a N1030
      show Ends p e below s _ _ _ T1030 (mkF m 213 #[iv i0, iv i1, iv i2, iv i3, .val (.long j4), .second, .val (.long j5), .second, iv (3 : Int32), iv xv, iv yv, iv zv, rv a899, .val (.long j4), .second, .val (.long j5), .second, .val (.long (j4 ^^^ (-1 : Int64))), .second, .val (.long (j4 ^^^ j5)), .second, rv a1000] [(.long (own_acc (XT.ushr zv (6 : Int32)) (3 : Int32) (own_acc (XT.ushr yv (6 : Int32)) (3 : Int32) (own_acc (XT.ushr xv (6 : Int32)) (3 : Int32) (j4 ^^^ j5) ((1 : Int64) <<< (xv.toInt64 &&& 63))) ((1 : Int64) <<< (yv.toInt64 &&& 63))) ((1 : Int64) <<< (zv.toInt64 &&& 63)))), (.long ((own_add (own_add (own_add (own_f j4 j5 (j4 ^^^ (-1 : Int64)) (j4 ^^^ j5)) ij0.toNatClampNeg wj0) ij1.toNatClampNeg wj1) ij2.toNatClampNeg wj2) 3))])
      refine go (fun _ => XT.lcmp X1030.here hx rfl (hb hby at_213) rfl) ?_
      show Ends p e below s _ _ _ T1030 (mkF m 214 #[iv i0, iv i1, iv i2, iv i3, .val (.long j4), .second, .val (.long j5), .second, iv (3 : Int32), iv xv, iv yv, iv zv, rv a899, .val (.long j4), .second, .val (.long j5), .second, .val (.long (j4 ^^^ (-1 : Int64))), .second, .val (.long (j4 ^^^ j5)), .second, rv a1000] [(.int (XT.cmpL ((own_add (own_add (own_add (own_f j4 j5 (j4 ^^^ (-1 : Int64)) (j4 ^^^ j5)) ij0.toNatClampNeg wj0) ij1.toNatClampNeg wj1) ij2.toNatClampNeg wj2) 3) (own_acc (XT.ushr zv (6 : Int32)) (3 : Int32) (own_acc (XT.ushr yv (6 : Int32)) (3 : Int32) (own_acc (XT.ushr xv (6 : Int32)) (3 : Int32) (j4 ^^^ j5) ((1 : Int64) <<< (xv.toInt64 &&& 63))) ((1 : Int64) <<< (yv.toInt64 &&& 63))) ((1 : Int64) <<< (zv.toInt64 &&& 63)))))])
      refine go (fun _ => XS.ifNo X1030.here hx rfl (hb hby at_214) rfl (XT.ll_ne_f qj3)) ?_
      show Ends p e below s _ _ _ T1030 (mkF m 217 #[iv i0, iv i1, iv i2, iv i3, .val (.long j4), .second, .val (.long j5), .second, iv (3 : Int32), iv xv, iv yv, iv zv, rv a899, .val (.long j4), .second, .val (.long j5), .second, .val (.long (j4 ^^^ (-1 : Int64))), .second, .val (.long (j4 ^^^ j5)), .second, rv a1000] [])
      refine go (fun _ => XT.iconstV X1030.here hx rfl (1 : Int32) (hb hby at_217) (by decide)) ?_
      refine go (fun _ => XS.goto X1030.here hx rfl (pc0 := 218) (pc' := 222) rfl (hb hby at_218) (by decide) (by decide)) ?_
      show Ends p e below s _ _ _ T1030 (mkF m 222 #[iv i0, iv i1, iv i2, iv i3, .val (.long j4), .second, .val (.long j5), .second, iv (3 : Int32), iv xv, iv yv, iv zv, rv a899, .val (.long j4), .second, .val (.long j5), .second, .val (.long (j4 ^^^ (-1 : Int64))), .second, .val (.long (j4 ^^^ j5)), .second, rv a1000] [(.int (1 : Int32))])
      exact endN X1030 hx hlk hret (by simp) (hb hby at_222) e1030 ⟨rfl, N1030a⟩ (by decide) (by decide)
    refine go (fun _ => XS.iload X905.here hx rfl (hb hby at_35) rfl) ?_
    refine go (fun _ => XT.iconstV X905.here hx rfl (1 : Int32) (hb hby at_37) (by decide)) ?_
    show Ends p e below s _ _ _ T905 (mkF m 38 #[iv i0, iv i1, iv i2, iv i3, .val (.long j4), .second, .val (.long j5), .second, iv (3 : Int32), iv xv, iv yv, iv zv, rv a899, .unset, .unset, .unset, .unset, .unset, .unset, .unset, .unset, .unset] [(.int (1 : Int32)), (.int (3 : Int32))])
    refine go (fun _ => XS.icmpNo X905.here hx rfl (hb hby at_38) rfl (XT.ii_lt_f ((by decide) : ¬ ((3 : Int32) < (1 : Int32))))) ?_
    show Ends p e below s _ _ _ T905 (mkF m 41 #[iv i0, iv i1, iv i2, iv i3, .val (.long j4), .second, .val (.long j5), .second, iv (3 : Int32), iv xv, iv yv, iv zv, rv a899, .unset, .unset, .unset, .unset, .unset, .unset, .unset, .unset, .unset] [])
    refine go (fun _ => XS.aload X905.here hx rfl (hb hby at_41) rfl rfl) ?_
    refine go (fun _ => XS.iload X905.here hx rfl (hb hby at_43) rfl) ?_
    show Ends p e below s _ _ _ T905 (mkF m 45 #[iv i0, iv i1, iv i2, iv i3, .val (.long j4), .second, .val (.long j5), .second, iv (3 : Int32), iv xv, iv yv, iv zv, rv a899, .unset, .unset, .unset, .unset, .unset, .unset, .unset, .unset, .unset] [(.int xv), (.ref a899)])
    have nI : a899 ≠ aI := (Nat.ne_of_lt (Nat.lt_of_lt_of_le (av_11).lt f899)).symm
    have nW : a899 ≠ aW := (Nat.ne_of_lt (Nat.lt_of_lt_of_le (av_12).lt f899)).symm
    have F1031 := (Exa.keep A899 K905)
    refine cVirt X905 hx hZ hown (by rw [hml]; rfl) e905 (hwi hw 17 rfl) (hwi hw 18 rfl) (hwi hw 20 rfl) (hwi hw 19 rfl) (hwi hw 2 rfl) (hwi hw 21 rfl) (notFace_of_selects (args := #[]) (mvT hZ (hwi hw 20 rfl))) a899 F1031 [(.int xv)] [] rfl (rm_set0 hw a899 aI aW k_aI k_aW  xv _ O906 f899 F1031 Q905_0 Q905_1 Q905_2 Q905_3 (Arv.ext av_11 O906) (Arv.ext av_12 O906) nI nW) (hb hby at_45) rfl (lenOf pd_5 rfl) (by decide) (by decide) (Nat.le_of_ble_eq_true rfl) (by decide) (by decide) ?_
    rintro v1032 T1032 h1032 L1032 X1032 e1032 ⟨rfl, N1032, ⟨bi1032, bw1032, k11032, k21032, K1032, ga1032, gb1032, nn1032, Q1032_0, Q1032_1, Q1032_2, Q1032_3, Q1032_4, Q1032_5⟩⟩
    have N1032a := Fr.app N905a N1032
    have n1033 : a899 ≠ bi1032 := Nat.ne_of_lt (Nat.lt_of_lt_of_le (F1031.lt) ga1032)
    have f1034 : Z.heap.size ≤ bi1032 := Nat.le_trans (O906).1 ga1032
    have n1035 : a899 ≠ bw1032 := Nat.ne_of_lt (Nat.lt_of_lt_of_le (F1031.lt) gb1032)
    have f1036 : Z.heap.size ≤ bw1032 := Nat.le_trans (O906).1 gb1032
    have O1037 : Ext Z.heap h1032 := xk O906 K1032 (allS f899 all0)
    show Ends p e below s _ _ _ T1032 (mkF m 48 #[iv i0, iv i1, iv i2, iv i3, .val (.long j4), .second, .val (.long j5), .second, iv (3 : Int32), iv xv, iv yv, iv zv, rv a899, .unset, .unset, .unset, .unset, .unset, .unset, .unset, .unset, .unset] [])
    refine go (fun _ => XS.iload X1032.here hx rfl (hb hby at_48) rfl) ?_
    refine go (fun _ => XT.iconstV X1032.here hx rfl (2 : Int32) (hb hby at_50) (by decide)) ?_
    show Ends p e below s _ _ _ T1032 (mkF m 51 #[iv i0, iv i1, iv i2, iv i3, .val (.long j4), .second, .val (.long j5), .second, iv (3 : Int32), iv xv, iv yv, iv zv, rv a899, .unset, .unset, .unset, .unset, .unset, .unset, .unset, .unset, .unset] [(.int (2 : Int32)), (.int (3 : Int32))])
    refine go (fun _ => XS.icmpNo X1032.here hx rfl (hb hby at_51) rfl (XT.ii_lt_f ((by decide) : ¬ ((3 : Int32) < (2 : Int32))))) ?_
    show Ends p e below s _ _ _ T1032 (mkF m 54 #[iv i0, iv i1, iv i2, iv i3, .val (.long j4), .second, .val (.long j5), .second, iv (3 : Int32), iv xv, iv yv, iv zv, rv a899, .unset, .unset, .unset, .unset, .unset, .unset, .unset, .unset, .unset] [])
    refine go (fun _ => XS.aload X1032.here hx rfl (hb hby at_54) rfl rfl) ?_
    refine go (fun _ => XS.iload X1032.here hx rfl (hb hby at_56) rfl) ?_
    show Ends p e below s _ _ _ T1032 (mkF m 58 #[iv i0, iv i1, iv i2, iv i3, .val (.long j4), .second, .val (.long j5), .second, iv (3 : Int32), iv xv, iv yv, iv zv, rv a899, .unset, .unset, .unset, .unset, .unset, .unset, .unset, .unset, .unset] [(.int yv), (.ref a899)])
    have F1038 := (Exa.keep F1031 K1032)
    refine cVirt X1032 hx hZ hown (by rw [hml]; rfl) e1032 (hwi hw 17 rfl) (hwi hw 18 rfl) (hwi hw 20 rfl) (hwi hw 19 rfl) (hwi hw 2 rfl) (hwi hw 21 rfl) (notFace_of_selects (args := #[]) (mvT hZ (hwi hw 20 rfl))) a899 F1038 [(.int yv)] [] rfl (rm_set1 hw a899 bi1032 bw1032 k11032 k21032 (XT.ushr xv (6 : Int32)) ((0 : Int64) ||| ((1 : Int64) <<< (xv.toInt64 &&& 63))) yv _ O1037 f899 F1038 Q1032_0 Q1032_1 Q1032_2 Q1032_3 Q1032_4 Q1032_5 f1034 f1036 n1033 n1035 nn1032) (hb hby at_58) rfl (lenOf pd_5 rfl) (by decide) (by decide) (Nat.le_of_ble_eq_true rfl) (by decide) (by decide) ?_
    rintro v1039 T1039 h1039 L1039 X1039 e1039 (⟨rfl, N1039, cq1039, ⟨K1039, Q1039_0, Q1039_1, Q1039_2, Q1039_3, Q1039_4, Q1039_5⟩⟩ | ⟨rfl, N1039, cq1039, ⟨K1039, Q1039_0, Q1039_1, Q1039_2, Q1039_3, Q1039_4, Q1039_5⟩⟩ | ⟨rfl, N1039, cq1039, ⟨K1039, Q1039_0, Q1039_1, Q1039_2, Q1039_3, Q1039_4, Q1039_5⟩⟩)
    · have N1039a := Fr.app N1032a N1039
      have O1040 : Ext Z.heap h1039 := xk O1037 K1039 (allS f899 (allS f1034 (allS f1036 all0)))
      show Ends p e below s _ _ _ T1039 (mkF m 61 #[iv i0, iv i1, iv i2, iv i3, .val (.long j4), .second, .val (.long j5), .second, iv (3 : Int32), iv xv, iv yv, iv zv, rv a899, .unset, .unset, .unset, .unset, .unset, .unset, .unset, .unset, .unset] [])
      refine go (fun _ => XS.iload X1039.here hx rfl (hb hby at_61) rfl) ?_
      refine go (fun _ => XT.iconstV X1039.here hx rfl (3 : Int32) (hb hby at_63) (by decide)) ?_
      show Ends p e below s _ _ _ T1039 (mkF m 64 #[iv i0, iv i1, iv i2, iv i3, .val (.long j4), .second, .val (.long j5), .second, iv (3 : Int32), iv xv, iv yv, iv zv, rv a899, .unset, .unset, .unset, .unset, .unset, .unset, .unset, .unset, .unset] [(.int (3 : Int32)), (.int (3 : Int32))])
      refine go (fun _ => XS.icmpNo X1039.here hx rfl (hb hby at_64) rfl (XT.ii_lt_f ((by decide) : ¬ ((3 : Int32) < (3 : Int32))))) ?_
      show Ends p e below s _ _ _ T1039 (mkF m 67 #[iv i0, iv i1, iv i2, iv i3, .val (.long j4), .second, .val (.long j5), .second, iv (3 : Int32), iv xv, iv yv, iv zv, rv a899, .unset, .unset, .unset, .unset, .unset, .unset, .unset, .unset, .unset] [])
      refine go (fun _ => XS.aload X1039.here hx rfl (hb hby at_67) rfl rfl) ?_
      refine go (fun _ => XS.iload X1039.here hx rfl (hb hby at_69) rfl) ?_
      show Ends p e below s _ _ _ T1039 (mkF m 71 #[iv i0, iv i1, iv i2, iv i3, .val (.long j4), .second, .val (.long j5), .second, iv (3 : Int32), iv xv, iv yv, iv zv, rv a899, .unset, .unset, .unset, .unset, .unset, .unset, .unset, .unset, .unset] [(.int zv), (.ref a899)])
      have F1041 := (Exa.keep F1038 K1039)
      refine cVirt X1039 hx hZ hown (by rw [hml]; rfl) e1039 (hwi hw 17 rfl) (hwi hw 18 rfl) (hwi hw 20 rfl) (hwi hw 19 rfl) (hwi hw 2 rfl) (hwi hw 21 rfl) (notFace_of_selects (args := #[]) (mvT hZ (hwi hw 20 rfl))) a899 F1041 [(.int zv)] [] rfl (rm_set2 hw a899 bi1032 bw1032 k11032 k21032 (XT.ushr yv (6 : Int32)) (XT.ushr xv (6 : Int32)) ((0 : Int64) ||| ((1 : Int64) <<< (yv.toInt64 &&& 63))) ((0 : Int64) ||| ((1 : Int64) <<< (xv.toInt64 &&& 63))) zv _ O1040 f899 F1041 Q1039_0 Q1039_1 Q1039_2 Q1039_3 Q1039_4 Q1039_5 f1034 f1036 n1033 n1035 nn1032) (hb hby at_71) rfl (lenOf pd_5 rfl) (by decide) (by decide) (Nat.le_of_ble_eq_true rfl) (by decide) (by decide) ?_
      rintro v1042 T1042 h1042 L1042 X1042 e1042 (⟨rfl, N1042, cq1042, ⟨bi1042, bw1042, k11042, k21042, K1042, ga1042, gb1042, nn1042, Q1042_0, Q1042_1, Q1042_2, Q1042_3, Q1042_4, Q1042_5⟩⟩ | ⟨rfl, N1042, cq1042, ⟨K1042, Q1042_0, Q1042_1, Q1042_2, Q1042_3, Q1042_4, Q1042_5⟩⟩ | ⟨rfl, N1042, cq1042, ⟨bi1042, bw1042, k11042, k21042, K1042, ga1042, gb1042, nn1042, Q1042_0, Q1042_1, Q1042_2, Q1042_3, Q1042_4, Q1042_5⟩⟩ | ⟨rfl, N1042, cq1042, ⟨K1042, Q1042_0, Q1042_1, Q1042_2, Q1042_3, Q1042_4, Q1042_5⟩⟩ | ⟨rfl, N1042, cq1042, ⟨bi1042, bw1042, k11042, k21042, K1042, ga1042, gb1042, nn1042, Q1042_0, Q1042_1, Q1042_2, Q1042_3, Q1042_4, Q1042_5⟩⟩)
      · have N1042a := Fr.app N1039a N1042
        have n1043 : a899 ≠ bi1042 := Nat.ne_of_lt (Nat.lt_of_lt_of_le (F1041.lt) ga1042)
        have n1044 : bi1032 ≠ bi1042 := Nat.ne_of_lt (Nat.lt_of_lt_of_le (Q1039_4.lt) ga1042)
        have n1045 : bw1032 ≠ bi1042 := Nat.ne_of_lt (Nat.lt_of_lt_of_le (Q1039_5.lt) ga1042)
        have f1046 : Z.heap.size ≤ bi1042 := Nat.le_trans (O1040).1 ga1042
        have n1047 : a899 ≠ bw1042 := Nat.ne_of_lt (Nat.lt_of_lt_of_le (F1041.lt) gb1042)
        have n1048 : bi1032 ≠ bw1042 := Nat.ne_of_lt (Nat.lt_of_lt_of_le (Q1039_4.lt) gb1042)
        have n1049 : bw1032 ≠ bw1042 := Nat.ne_of_lt (Nat.lt_of_lt_of_le (Q1039_5.lt) gb1042)
        have f1050 : Z.heap.size ≤ bw1042 := Nat.le_trans (O1040).1 gb1042
        have O1051 : Ext Z.heap h1042 := xk O1040 K1042 (allS f899 (allS f1034 (allS f1036 all0)))
        show Ends p e below s _ _ _ T1042 (mkF m 74 #[iv i0, iv i1, iv i2, iv i3, .val (.long j4), .second, .val (.long j5), .second, iv (3 : Int32), iv xv, iv yv, iv zv, rv a899, .unset, .unset, .unset, .unset, .unset, .unset, .unset, .unset, .unset] [])
        have e1052 : (own_add (own_add (own_add (own_f j4 j5 (j4 ^^^ (-1 : Int64)) (j4 ^^^ j5)) (XT.ushr zv (6 : Int32)).toNatClampNeg ((0 : Int64) ||| ((1 : Int64) <<< (zv.toInt64 &&& 63)))) (XT.ushr yv (6 : Int32)).toNatClampNeg ((0 : Int64) ||| ((1 : Int64) <<< (yv.toInt64 &&& 63)))) (XT.ushr xv (6 : Int32)).toNatClampNeg ((0 : Int64) ||| ((1 : Int64) <<< (xv.toInt64 &&& 63)))) 0 = (own_acc (XT.ushr zv (6 : Int32)) (0 : Int32) (own_acc (XT.ushr yv (6 : Int32)) (0 : Int32) (own_acc (XT.ushr xv (6 : Int32)) (0 : Int32) j4 ((1 : Int64) <<< (xv.toInt64 &&& 63))) ((1 : Int64) <<< (yv.toInt64 &&& 63))) ((1 : Int64) <<< (zv.toInt64 &&& 63))) := by
          rw [own_addacc (own_ix hxv) (kw := (0 : Int32)) (by decide) (by decide), own_addacc (own_ix hyv) (kw := (0 : Int32)) (by decide) (by decide), own_addacc (own_ix hzv) (kw := (0 : Int32)) (by decide) (by decide)]
          show own_acc (XT.ushr xv (6 : Int32)) (0 : Int32) (own_acc (XT.ushr yv (6 : Int32)) (0 : Int32) (own_acc (XT.ushr zv (6 : Int32)) (0 : Int32) (j4) ((0 : Int64) ||| ((1 : Int64) <<< (zv.toInt64 &&& 63)))) ((0 : Int64) ||| ((1 : Int64) <<< (yv.toInt64 &&& 63)))) ((0 : Int64) ||| ((1 : Int64) <<< (xv.toInt64 &&& 63))) = _
          (try simp only [own_z]) <;> by_cases uxv : XT.ushr xv (6 : Int32) = (0 : Int32) <;> by_cases uyv : XT.ushr yv (6 : Int32) = (0 : Int32) <;> by_cases uzv : XT.ushr zv (6 : Int32) = (0 : Int32) <;> simp [own_acc, uxv, uyv, uzv, Int64.or_assoc, Int64.or_comm, own_orl]
        have e1053 : (own_add (own_add (own_add (own_f j4 j5 (j4 ^^^ (-1 : Int64)) (j4 ^^^ j5)) (XT.ushr zv (6 : Int32)).toNatClampNeg ((0 : Int64) ||| ((1 : Int64) <<< (zv.toInt64 &&& 63)))) (XT.ushr yv (6 : Int32)).toNatClampNeg ((0 : Int64) ||| ((1 : Int64) <<< (yv.toInt64 &&& 63)))) (XT.ushr xv (6 : Int32)).toNatClampNeg ((0 : Int64) ||| ((1 : Int64) <<< (xv.toInt64 &&& 63)))) 1 = (own_acc (XT.ushr zv (6 : Int32)) (1 : Int32) (own_acc (XT.ushr yv (6 : Int32)) (1 : Int32) (own_acc (XT.ushr xv (6 : Int32)) (1 : Int32) j5 ((1 : Int64) <<< (xv.toInt64 &&& 63))) ((1 : Int64) <<< (yv.toInt64 &&& 63))) ((1 : Int64) <<< (zv.toInt64 &&& 63))) := by
          rw [own_addacc (own_ix hxv) (kw := (1 : Int32)) (by decide) (by decide), own_addacc (own_ix hyv) (kw := (1 : Int32)) (by decide) (by decide), own_addacc (own_ix hzv) (kw := (1 : Int32)) (by decide) (by decide)]
          show own_acc (XT.ushr xv (6 : Int32)) (1 : Int32) (own_acc (XT.ushr yv (6 : Int32)) (1 : Int32) (own_acc (XT.ushr zv (6 : Int32)) (1 : Int32) (j5) ((0 : Int64) ||| ((1 : Int64) <<< (zv.toInt64 &&& 63)))) ((0 : Int64) ||| ((1 : Int64) <<< (yv.toInt64 &&& 63)))) ((0 : Int64) ||| ((1 : Int64) <<< (xv.toInt64 &&& 63))) = _
          (try simp only [own_z]) <;> by_cases uxv : XT.ushr xv (6 : Int32) = (1 : Int32) <;> by_cases uyv : XT.ushr yv (6 : Int32) = (1 : Int32) <;> by_cases uzv : XT.ushr zv (6 : Int32) = (1 : Int32) <;> simp [own_acc, uxv, uyv, uzv, Int64.or_assoc, Int64.or_comm, own_orl]
        have e1054 : (own_add (own_add (own_add (own_f j4 j5 (j4 ^^^ (-1 : Int64)) (j4 ^^^ j5)) (XT.ushr zv (6 : Int32)).toNatClampNeg ((0 : Int64) ||| ((1 : Int64) <<< (zv.toInt64 &&& 63)))) (XT.ushr yv (6 : Int32)).toNatClampNeg ((0 : Int64) ||| ((1 : Int64) <<< (yv.toInt64 &&& 63)))) (XT.ushr xv (6 : Int32)).toNatClampNeg ((0 : Int64) ||| ((1 : Int64) <<< (xv.toInt64 &&& 63)))) 2 = (own_acc (XT.ushr zv (6 : Int32)) (2 : Int32) (own_acc (XT.ushr yv (6 : Int32)) (2 : Int32) (own_acc (XT.ushr xv (6 : Int32)) (2 : Int32) (j4 ^^^ (-1 : Int64)) ((1 : Int64) <<< (xv.toInt64 &&& 63))) ((1 : Int64) <<< (yv.toInt64 &&& 63))) ((1 : Int64) <<< (zv.toInt64 &&& 63))) := by
          rw [own_addacc (own_ix hxv) (kw := (2 : Int32)) (by decide) (by decide), own_addacc (own_ix hyv) (kw := (2 : Int32)) (by decide) (by decide), own_addacc (own_ix hzv) (kw := (2 : Int32)) (by decide) (by decide)]
          show own_acc (XT.ushr xv (6 : Int32)) (2 : Int32) (own_acc (XT.ushr yv (6 : Int32)) (2 : Int32) (own_acc (XT.ushr zv (6 : Int32)) (2 : Int32) ((j4 ^^^ (-1 : Int64))) ((0 : Int64) ||| ((1 : Int64) <<< (zv.toInt64 &&& 63)))) ((0 : Int64) ||| ((1 : Int64) <<< (yv.toInt64 &&& 63)))) ((0 : Int64) ||| ((1 : Int64) <<< (xv.toInt64 &&& 63))) = _
          (try simp only [own_z]) <;> by_cases uxv : XT.ushr xv (6 : Int32) = (2 : Int32) <;> by_cases uyv : XT.ushr yv (6 : Int32) = (2 : Int32) <;> by_cases uzv : XT.ushr zv (6 : Int32) = (2 : Int32) <;> simp [own_acc, uxv, uyv, uzv, Int64.or_assoc, Int64.or_comm, own_orl]
        have e1055 : (own_add (own_add (own_add (own_f j4 j5 (j4 ^^^ (-1 : Int64)) (j4 ^^^ j5)) (XT.ushr zv (6 : Int32)).toNatClampNeg ((0 : Int64) ||| ((1 : Int64) <<< (zv.toInt64 &&& 63)))) (XT.ushr yv (6 : Int32)).toNatClampNeg ((0 : Int64) ||| ((1 : Int64) <<< (yv.toInt64 &&& 63)))) (XT.ushr xv (6 : Int32)).toNatClampNeg ((0 : Int64) ||| ((1 : Int64) <<< (xv.toInt64 &&& 63)))) 3 = (own_acc (XT.ushr zv (6 : Int32)) (3 : Int32) (own_acc (XT.ushr yv (6 : Int32)) (3 : Int32) (own_acc (XT.ushr xv (6 : Int32)) (3 : Int32) (j4 ^^^ j5) ((1 : Int64) <<< (xv.toInt64 &&& 63))) ((1 : Int64) <<< (yv.toInt64 &&& 63))) ((1 : Int64) <<< (zv.toInt64 &&& 63))) := by
          rw [own_addacc (own_ix hxv) (kw := (3 : Int32)) (by decide) (by decide), own_addacc (own_ix hyv) (kw := (3 : Int32)) (by decide) (by decide), own_addacc (own_ix hzv) (kw := (3 : Int32)) (by decide) (by decide)]
          show own_acc (XT.ushr xv (6 : Int32)) (3 : Int32) (own_acc (XT.ushr yv (6 : Int32)) (3 : Int32) (own_acc (XT.ushr zv (6 : Int32)) (3 : Int32) ((j4 ^^^ j5)) ((0 : Int64) ||| ((1 : Int64) <<< (zv.toInt64 &&& 63)))) ((0 : Int64) ||| ((1 : Int64) <<< (yv.toInt64 &&& 63)))) ((0 : Int64) ||| ((1 : Int64) <<< (xv.toInt64 &&& 63))) = _
          (try simp only [own_z]) <;> by_cases uxv : XT.ushr xv (6 : Int32) = (3 : Int32) <;> by_cases uyv : XT.ushr yv (6 : Int32) = (3 : Int32) <;> by_cases uzv : XT.ushr zv (6 : Int32) = (3 : Int32) <;> simp [own_acc, uxv, uyv, uzv, Int64.or_assoc, Int64.or_comm, own_orl]
        have F1056 := (Exa.keep F1041 K1042)
        exact J3_3_0 _ _ _ bi1042 bw1042 k11042 k21042 (XT.ushr zv (6 : Int32)) (XT.ushr yv (6 : Int32)) (XT.ushr xv (6 : Int32)) ((0 : Int64) ||| ((1 : Int64) <<< (zv.toInt64 &&& 63))) ((0 : Int64) ||| ((1 : Int64) <<< (yv.toInt64 &&& 63))) ((0 : Int64) ||| ((1 : Int64) <<< (xv.toInt64 &&& 63))) (X1042.more (by decide) (by decide)) e1042 O1051 N1042a F1056 Q1042_0 Q1042_1 Q1042_2 Q1042_3 Q1042_4 Q1042_5 f1046 f1050 n1043 n1047 nn1042 (own_ix hzv) (own_ix hyv) (own_ix hxv) e1052 e1053 e1054 e1055
      · have N1042a := Fr.app N1039a N1042
        have O1057 : Ext Z.heap h1042 := xk O1040 K1042 (allS f899 (allS f1034 (allS f1036 all0)))
        show Ends p e below s _ _ _ T1042 (mkF m 74 #[iv i0, iv i1, iv i2, iv i3, .val (.long j4), .second, .val (.long j5), .second, iv (3 : Int32), iv xv, iv yv, iv zv, rv a899, .unset, .unset, .unset, .unset, .unset, .unset, .unset, .unset, .unset] [])
        have e1058 : (own_add (own_add (own_f j4 j5 (j4 ^^^ (-1 : Int64)) (j4 ^^^ j5)) (XT.ushr yv (6 : Int32)).toNatClampNeg (((0 : Int64) ||| ((1 : Int64) <<< (yv.toInt64 &&& 63))) ||| ((1 : Int64) <<< (zv.toInt64 &&& 63)))) (XT.ushr xv (6 : Int32)).toNatClampNeg ((0 : Int64) ||| ((1 : Int64) <<< (xv.toInt64 &&& 63)))) 0 = (own_acc (XT.ushr zv (6 : Int32)) (0 : Int32) (own_acc (XT.ushr yv (6 : Int32)) (0 : Int32) (own_acc (XT.ushr xv (6 : Int32)) (0 : Int32) j4 ((1 : Int64) <<< (xv.toInt64 &&& 63))) ((1 : Int64) <<< (yv.toInt64 &&& 63))) ((1 : Int64) <<< (zv.toInt64 &&& 63))) := by
          rw [own_addacc (own_ix hxv) (kw := (0 : Int32)) (by decide) (by decide), own_addacc (own_ix hyv) (kw := (0 : Int32)) (by decide) (by decide)]
          show own_acc (XT.ushr xv (6 : Int32)) (0 : Int32) (own_acc (XT.ushr yv (6 : Int32)) (0 : Int32) (j4) (((0 : Int64) ||| ((1 : Int64) <<< (yv.toInt64 &&& 63))) ||| ((1 : Int64) <<< (zv.toInt64 &&& 63)))) ((0 : Int64) ||| ((1 : Int64) <<< (xv.toInt64 &&& 63))) = _
          try rw [← cq1042]
          (try simp only [own_z]) <;> by_cases uxv : XT.ushr xv (6 : Int32) = (0 : Int32) <;> by_cases uyv : XT.ushr yv (6 : Int32) = (0 : Int32) <;> simp [own_acc, uxv, uyv, Int64.or_assoc, Int64.or_comm, own_orl]
        have e1059 : (own_add (own_add (own_f j4 j5 (j4 ^^^ (-1 : Int64)) (j4 ^^^ j5)) (XT.ushr yv (6 : Int32)).toNatClampNeg (((0 : Int64) ||| ((1 : Int64) <<< (yv.toInt64 &&& 63))) ||| ((1 : Int64) <<< (zv.toInt64 &&& 63)))) (XT.ushr xv (6 : Int32)).toNatClampNeg ((0 : Int64) ||| ((1 : Int64) <<< (xv.toInt64 &&& 63)))) 1 = (own_acc (XT.ushr zv (6 : Int32)) (1 : Int32) (own_acc (XT.ushr yv (6 : Int32)) (1 : Int32) (own_acc (XT.ushr xv (6 : Int32)) (1 : Int32) j5 ((1 : Int64) <<< (xv.toInt64 &&& 63))) ((1 : Int64) <<< (yv.toInt64 &&& 63))) ((1 : Int64) <<< (zv.toInt64 &&& 63))) := by
          rw [own_addacc (own_ix hxv) (kw := (1 : Int32)) (by decide) (by decide), own_addacc (own_ix hyv) (kw := (1 : Int32)) (by decide) (by decide)]
          show own_acc (XT.ushr xv (6 : Int32)) (1 : Int32) (own_acc (XT.ushr yv (6 : Int32)) (1 : Int32) (j5) (((0 : Int64) ||| ((1 : Int64) <<< (yv.toInt64 &&& 63))) ||| ((1 : Int64) <<< (zv.toInt64 &&& 63)))) ((0 : Int64) ||| ((1 : Int64) <<< (xv.toInt64 &&& 63))) = _
          try rw [← cq1042]
          (try simp only [own_z]) <;> by_cases uxv : XT.ushr xv (6 : Int32) = (1 : Int32) <;> by_cases uyv : XT.ushr yv (6 : Int32) = (1 : Int32) <;> simp [own_acc, uxv, uyv, Int64.or_assoc, Int64.or_comm, own_orl]
        have e1060 : (own_add (own_add (own_f j4 j5 (j4 ^^^ (-1 : Int64)) (j4 ^^^ j5)) (XT.ushr yv (6 : Int32)).toNatClampNeg (((0 : Int64) ||| ((1 : Int64) <<< (yv.toInt64 &&& 63))) ||| ((1 : Int64) <<< (zv.toInt64 &&& 63)))) (XT.ushr xv (6 : Int32)).toNatClampNeg ((0 : Int64) ||| ((1 : Int64) <<< (xv.toInt64 &&& 63)))) 2 = (own_acc (XT.ushr zv (6 : Int32)) (2 : Int32) (own_acc (XT.ushr yv (6 : Int32)) (2 : Int32) (own_acc (XT.ushr xv (6 : Int32)) (2 : Int32) (j4 ^^^ (-1 : Int64)) ((1 : Int64) <<< (xv.toInt64 &&& 63))) ((1 : Int64) <<< (yv.toInt64 &&& 63))) ((1 : Int64) <<< (zv.toInt64 &&& 63))) := by
          rw [own_addacc (own_ix hxv) (kw := (2 : Int32)) (by decide) (by decide), own_addacc (own_ix hyv) (kw := (2 : Int32)) (by decide) (by decide)]
          show own_acc (XT.ushr xv (6 : Int32)) (2 : Int32) (own_acc (XT.ushr yv (6 : Int32)) (2 : Int32) ((j4 ^^^ (-1 : Int64))) (((0 : Int64) ||| ((1 : Int64) <<< (yv.toInt64 &&& 63))) ||| ((1 : Int64) <<< (zv.toInt64 &&& 63)))) ((0 : Int64) ||| ((1 : Int64) <<< (xv.toInt64 &&& 63))) = _
          try rw [← cq1042]
          (try simp only [own_z]) <;> by_cases uxv : XT.ushr xv (6 : Int32) = (2 : Int32) <;> by_cases uyv : XT.ushr yv (6 : Int32) = (2 : Int32) <;> simp [own_acc, uxv, uyv, Int64.or_assoc, Int64.or_comm, own_orl]
        have e1061 : (own_add (own_add (own_f j4 j5 (j4 ^^^ (-1 : Int64)) (j4 ^^^ j5)) (XT.ushr yv (6 : Int32)).toNatClampNeg (((0 : Int64) ||| ((1 : Int64) <<< (yv.toInt64 &&& 63))) ||| ((1 : Int64) <<< (zv.toInt64 &&& 63)))) (XT.ushr xv (6 : Int32)).toNatClampNeg ((0 : Int64) ||| ((1 : Int64) <<< (xv.toInt64 &&& 63)))) 3 = (own_acc (XT.ushr zv (6 : Int32)) (3 : Int32) (own_acc (XT.ushr yv (6 : Int32)) (3 : Int32) (own_acc (XT.ushr xv (6 : Int32)) (3 : Int32) (j4 ^^^ j5) ((1 : Int64) <<< (xv.toInt64 &&& 63))) ((1 : Int64) <<< (yv.toInt64 &&& 63))) ((1 : Int64) <<< (zv.toInt64 &&& 63))) := by
          rw [own_addacc (own_ix hxv) (kw := (3 : Int32)) (by decide) (by decide), own_addacc (own_ix hyv) (kw := (3 : Int32)) (by decide) (by decide)]
          show own_acc (XT.ushr xv (6 : Int32)) (3 : Int32) (own_acc (XT.ushr yv (6 : Int32)) (3 : Int32) ((j4 ^^^ j5)) (((0 : Int64) ||| ((1 : Int64) <<< (yv.toInt64 &&& 63))) ||| ((1 : Int64) <<< (zv.toInt64 &&& 63)))) ((0 : Int64) ||| ((1 : Int64) <<< (xv.toInt64 &&& 63))) = _
          try rw [← cq1042]
          (try simp only [own_z]) <;> by_cases uxv : XT.ushr xv (6 : Int32) = (3 : Int32) <;> by_cases uyv : XT.ushr yv (6 : Int32) = (3 : Int32) <;> simp [own_acc, uxv, uyv, Int64.or_assoc, Int64.or_comm, own_orl]
        have F1062 := (Exa.keep F1041 K1042)
        exact J3_2_0 _ _ _ bi1032 bw1032 k11032 k21032 (XT.ushr yv (6 : Int32)) (XT.ushr xv (6 : Int32)) (((0 : Int64) ||| ((1 : Int64) <<< (yv.toInt64 &&& 63))) ||| ((1 : Int64) <<< (zv.toInt64 &&& 63))) ((0 : Int64) ||| ((1 : Int64) <<< (xv.toInt64 &&& 63))) (X1042.more (by decide) (by decide)) e1042 O1057 N1042a F1062 Q1042_0 Q1042_1 Q1042_2 Q1042_3 Q1042_4 Q1042_5 f1034 f1036 n1033 n1035 nn1032 (own_ix hyv) (own_ix hxv) e1058 e1059 e1060 e1061
      · have N1042a := Fr.app N1039a N1042
        have n1063 : a899 ≠ bi1042 := Nat.ne_of_lt (Nat.lt_of_lt_of_le (F1041.lt) ga1042)
        have n1064 : bi1032 ≠ bi1042 := Nat.ne_of_lt (Nat.lt_of_lt_of_le (Q1039_4.lt) ga1042)
        have n1065 : bw1032 ≠ bi1042 := Nat.ne_of_lt (Nat.lt_of_lt_of_le (Q1039_5.lt) ga1042)
        have f1066 : Z.heap.size ≤ bi1042 := Nat.le_trans (O1040).1 ga1042
        have n1067 : a899 ≠ bw1042 := Nat.ne_of_lt (Nat.lt_of_lt_of_le (F1041.lt) gb1042)
        have n1068 : bi1032 ≠ bw1042 := Nat.ne_of_lt (Nat.lt_of_lt_of_le (Q1039_4.lt) gb1042)
        have n1069 : bw1032 ≠ bw1042 := Nat.ne_of_lt (Nat.lt_of_lt_of_le (Q1039_5.lt) gb1042)
        have f1070 : Z.heap.size ≤ bw1042 := Nat.le_trans (O1040).1 gb1042
        have O1071 : Ext Z.heap h1042 := xk O1040 K1042 (allS f899 (allS f1034 (allS f1036 all0)))
        show Ends p e below s _ _ _ T1042 (mkF m 74 #[iv i0, iv i1, iv i2, iv i3, .val (.long j4), .second, .val (.long j5), .second, iv (3 : Int32), iv xv, iv yv, iv zv, rv a899, .unset, .unset, .unset, .unset, .unset, .unset, .unset, .unset, .unset] [])
        have e1072 : (own_add (own_add (own_add (own_f j4 j5 (j4 ^^^ (-1 : Int64)) (j4 ^^^ j5)) (XT.ushr yv (6 : Int32)).toNatClampNeg ((0 : Int64) ||| ((1 : Int64) <<< (yv.toInt64 &&& 63)))) (XT.ushr zv (6 : Int32)).toNatClampNeg ((0 : Int64) ||| ((1 : Int64) <<< (zv.toInt64 &&& 63)))) (XT.ushr xv (6 : Int32)).toNatClampNeg ((0 : Int64) ||| ((1 : Int64) <<< (xv.toInt64 &&& 63)))) 0 = (own_acc (XT.ushr zv (6 : Int32)) (0 : Int32) (own_acc (XT.ushr yv (6 : Int32)) (0 : Int32) (own_acc (XT.ushr xv (6 : Int32)) (0 : Int32) j4 ((1 : Int64) <<< (xv.toInt64 &&& 63))) ((1 : Int64) <<< (yv.toInt64 &&& 63))) ((1 : Int64) <<< (zv.toInt64 &&& 63))) := by
          rw [own_addacc (own_ix hxv) (kw := (0 : Int32)) (by decide) (by decide), own_addacc (own_ix hzv) (kw := (0 : Int32)) (by decide) (by decide), own_addacc (own_ix hyv) (kw := (0 : Int32)) (by decide) (by decide)]
          show own_acc (XT.ushr xv (6 : Int32)) (0 : Int32) (own_acc (XT.ushr zv (6 : Int32)) (0 : Int32) (own_acc (XT.ushr yv (6 : Int32)) (0 : Int32) (j4) ((0 : Int64) ||| ((1 : Int64) <<< (yv.toInt64 &&& 63)))) ((0 : Int64) ||| ((1 : Int64) <<< (zv.toInt64 &&& 63)))) ((0 : Int64) ||| ((1 : Int64) <<< (xv.toInt64 &&& 63))) = _
          (try simp only [own_z]) <;> by_cases uxv : XT.ushr xv (6 : Int32) = (0 : Int32) <;> by_cases uyv : XT.ushr yv (6 : Int32) = (0 : Int32) <;> by_cases uzv : XT.ushr zv (6 : Int32) = (0 : Int32) <;> simp [own_acc, uxv, uyv, uzv, Int64.or_assoc, Int64.or_comm, own_orl]
        have e1073 : (own_add (own_add (own_add (own_f j4 j5 (j4 ^^^ (-1 : Int64)) (j4 ^^^ j5)) (XT.ushr yv (6 : Int32)).toNatClampNeg ((0 : Int64) ||| ((1 : Int64) <<< (yv.toInt64 &&& 63)))) (XT.ushr zv (6 : Int32)).toNatClampNeg ((0 : Int64) ||| ((1 : Int64) <<< (zv.toInt64 &&& 63)))) (XT.ushr xv (6 : Int32)).toNatClampNeg ((0 : Int64) ||| ((1 : Int64) <<< (xv.toInt64 &&& 63)))) 1 = (own_acc (XT.ushr zv (6 : Int32)) (1 : Int32) (own_acc (XT.ushr yv (6 : Int32)) (1 : Int32) (own_acc (XT.ushr xv (6 : Int32)) (1 : Int32) j5 ((1 : Int64) <<< (xv.toInt64 &&& 63))) ((1 : Int64) <<< (yv.toInt64 &&& 63))) ((1 : Int64) <<< (zv.toInt64 &&& 63))) := by
          rw [own_addacc (own_ix hxv) (kw := (1 : Int32)) (by decide) (by decide), own_addacc (own_ix hzv) (kw := (1 : Int32)) (by decide) (by decide), own_addacc (own_ix hyv) (kw := (1 : Int32)) (by decide) (by decide)]
          show own_acc (XT.ushr xv (6 : Int32)) (1 : Int32) (own_acc (XT.ushr zv (6 : Int32)) (1 : Int32) (own_acc (XT.ushr yv (6 : Int32)) (1 : Int32) (j5) ((0 : Int64) ||| ((1 : Int64) <<< (yv.toInt64 &&& 63)))) ((0 : Int64) ||| ((1 : Int64) <<< (zv.toInt64 &&& 63)))) ((0 : Int64) ||| ((1 : Int64) <<< (xv.toInt64 &&& 63))) = _
          (try simp only [own_z]) <;> by_cases uxv : XT.ushr xv (6 : Int32) = (1 : Int32) <;> by_cases uyv : XT.ushr yv (6 : Int32) = (1 : Int32) <;> by_cases uzv : XT.ushr zv (6 : Int32) = (1 : Int32) <;> simp [own_acc, uxv, uyv, uzv, Int64.or_assoc, Int64.or_comm, own_orl]
        have e1074 : (own_add (own_add (own_add (own_f j4 j5 (j4 ^^^ (-1 : Int64)) (j4 ^^^ j5)) (XT.ushr yv (6 : Int32)).toNatClampNeg ((0 : Int64) ||| ((1 : Int64) <<< (yv.toInt64 &&& 63)))) (XT.ushr zv (6 : Int32)).toNatClampNeg ((0 : Int64) ||| ((1 : Int64) <<< (zv.toInt64 &&& 63)))) (XT.ushr xv (6 : Int32)).toNatClampNeg ((0 : Int64) ||| ((1 : Int64) <<< (xv.toInt64 &&& 63)))) 2 = (own_acc (XT.ushr zv (6 : Int32)) (2 : Int32) (own_acc (XT.ushr yv (6 : Int32)) (2 : Int32) (own_acc (XT.ushr xv (6 : Int32)) (2 : Int32) (j4 ^^^ (-1 : Int64)) ((1 : Int64) <<< (xv.toInt64 &&& 63))) ((1 : Int64) <<< (yv.toInt64 &&& 63))) ((1 : Int64) <<< (zv.toInt64 &&& 63))) := by
          rw [own_addacc (own_ix hxv) (kw := (2 : Int32)) (by decide) (by decide), own_addacc (own_ix hzv) (kw := (2 : Int32)) (by decide) (by decide), own_addacc (own_ix hyv) (kw := (2 : Int32)) (by decide) (by decide)]
          show own_acc (XT.ushr xv (6 : Int32)) (2 : Int32) (own_acc (XT.ushr zv (6 : Int32)) (2 : Int32) (own_acc (XT.ushr yv (6 : Int32)) (2 : Int32) ((j4 ^^^ (-1 : Int64))) ((0 : Int64) ||| ((1 : Int64) <<< (yv.toInt64 &&& 63)))) ((0 : Int64) ||| ((1 : Int64) <<< (zv.toInt64 &&& 63)))) ((0 : Int64) ||| ((1 : Int64) <<< (xv.toInt64 &&& 63))) = _
          (try simp only [own_z]) <;> by_cases uxv : XT.ushr xv (6 : Int32) = (2 : Int32) <;> by_cases uyv : XT.ushr yv (6 : Int32) = (2 : Int32) <;> by_cases uzv : XT.ushr zv (6 : Int32) = (2 : Int32) <;> simp [own_acc, uxv, uyv, uzv, Int64.or_assoc, Int64.or_comm, own_orl]
        have e1075 : (own_add (own_add (own_add (own_f j4 j5 (j4 ^^^ (-1 : Int64)) (j4 ^^^ j5)) (XT.ushr yv (6 : Int32)).toNatClampNeg ((0 : Int64) ||| ((1 : Int64) <<< (yv.toInt64 &&& 63)))) (XT.ushr zv (6 : Int32)).toNatClampNeg ((0 : Int64) ||| ((1 : Int64) <<< (zv.toInt64 &&& 63)))) (XT.ushr xv (6 : Int32)).toNatClampNeg ((0 : Int64) ||| ((1 : Int64) <<< (xv.toInt64 &&& 63)))) 3 = (own_acc (XT.ushr zv (6 : Int32)) (3 : Int32) (own_acc (XT.ushr yv (6 : Int32)) (3 : Int32) (own_acc (XT.ushr xv (6 : Int32)) (3 : Int32) (j4 ^^^ j5) ((1 : Int64) <<< (xv.toInt64 &&& 63))) ((1 : Int64) <<< (yv.toInt64 &&& 63))) ((1 : Int64) <<< (zv.toInt64 &&& 63))) := by
          rw [own_addacc (own_ix hxv) (kw := (3 : Int32)) (by decide) (by decide), own_addacc (own_ix hzv) (kw := (3 : Int32)) (by decide) (by decide), own_addacc (own_ix hyv) (kw := (3 : Int32)) (by decide) (by decide)]
          show own_acc (XT.ushr xv (6 : Int32)) (3 : Int32) (own_acc (XT.ushr zv (6 : Int32)) (3 : Int32) (own_acc (XT.ushr yv (6 : Int32)) (3 : Int32) ((j4 ^^^ j5)) ((0 : Int64) ||| ((1 : Int64) <<< (yv.toInt64 &&& 63)))) ((0 : Int64) ||| ((1 : Int64) <<< (zv.toInt64 &&& 63)))) ((0 : Int64) ||| ((1 : Int64) <<< (xv.toInt64 &&& 63))) = _
          (try simp only [own_z]) <;> by_cases uxv : XT.ushr xv (6 : Int32) = (3 : Int32) <;> by_cases uyv : XT.ushr yv (6 : Int32) = (3 : Int32) <;> by_cases uzv : XT.ushr zv (6 : Int32) = (3 : Int32) <;> simp [own_acc, uxv, uyv, uzv, Int64.or_assoc, Int64.or_comm, own_orl]
        have F1076 := (Exa.keep F1041 K1042)
        exact J3_3_0 _ _ _ bi1042 bw1042 k11042 k21042 (XT.ushr yv (6 : Int32)) (XT.ushr zv (6 : Int32)) (XT.ushr xv (6 : Int32)) ((0 : Int64) ||| ((1 : Int64) <<< (yv.toInt64 &&& 63))) ((0 : Int64) ||| ((1 : Int64) <<< (zv.toInt64 &&& 63))) ((0 : Int64) ||| ((1 : Int64) <<< (xv.toInt64 &&& 63))) (X1042.more (by decide) (by decide)) e1042 O1071 N1042a F1076 Q1042_0 Q1042_1 Q1042_2 Q1042_3 Q1042_4 Q1042_5 f1066 f1070 n1063 n1067 nn1042 (own_ix hyv) (own_ix hzv) (own_ix hxv) e1072 e1073 e1074 e1075
      · have N1042a := Fr.app N1039a N1042
        have O1077 : Ext Z.heap h1042 := xk O1040 K1042 (allS f899 (allS f1034 (allS f1036 all0)))
        show Ends p e below s _ _ _ T1042 (mkF m 74 #[iv i0, iv i1, iv i2, iv i3, .val (.long j4), .second, .val (.long j5), .second, iv (3 : Int32), iv xv, iv yv, iv zv, rv a899, .unset, .unset, .unset, .unset, .unset, .unset, .unset, .unset, .unset] [])
        have e1078 : (own_add (own_add (own_f j4 j5 (j4 ^^^ (-1 : Int64)) (j4 ^^^ j5)) (XT.ushr yv (6 : Int32)).toNatClampNeg ((0 : Int64) ||| ((1 : Int64) <<< (yv.toInt64 &&& 63)))) (XT.ushr xv (6 : Int32)).toNatClampNeg (((0 : Int64) ||| ((1 : Int64) <<< (xv.toInt64 &&& 63))) ||| ((1 : Int64) <<< (zv.toInt64 &&& 63)))) 0 = (own_acc (XT.ushr zv (6 : Int32)) (0 : Int32) (own_acc (XT.ushr yv (6 : Int32)) (0 : Int32) (own_acc (XT.ushr xv (6 : Int32)) (0 : Int32) j4 ((1 : Int64) <<< (xv.toInt64 &&& 63))) ((1 : Int64) <<< (yv.toInt64 &&& 63))) ((1 : Int64) <<< (zv.toInt64 &&& 63))) := by
          rw [own_addacc (own_ix hxv) (kw := (0 : Int32)) (by decide) (by decide), own_addacc (own_ix hyv) (kw := (0 : Int32)) (by decide) (by decide)]
          show own_acc (XT.ushr xv (6 : Int32)) (0 : Int32) (own_acc (XT.ushr yv (6 : Int32)) (0 : Int32) (j4) ((0 : Int64) ||| ((1 : Int64) <<< (yv.toInt64 &&& 63)))) (((0 : Int64) ||| ((1 : Int64) <<< (xv.toInt64 &&& 63))) ||| ((1 : Int64) <<< (zv.toInt64 &&& 63))) = _
          try rw [← cq1042]
          (try simp only [own_z]) <;> by_cases uxv : XT.ushr xv (6 : Int32) = (0 : Int32) <;> by_cases uyv : XT.ushr yv (6 : Int32) = (0 : Int32) <;> simp [own_acc, uxv, uyv, Int64.or_assoc, Int64.or_comm, own_orl]
        have e1079 : (own_add (own_add (own_f j4 j5 (j4 ^^^ (-1 : Int64)) (j4 ^^^ j5)) (XT.ushr yv (6 : Int32)).toNatClampNeg ((0 : Int64) ||| ((1 : Int64) <<< (yv.toInt64 &&& 63)))) (XT.ushr xv (6 : Int32)).toNatClampNeg (((0 : Int64) ||| ((1 : Int64) <<< (xv.toInt64 &&& 63))) ||| ((1 : Int64) <<< (zv.toInt64 &&& 63)))) 1 = (own_acc (XT.ushr zv (6 : Int32)) (1 : Int32) (own_acc (XT.ushr yv (6 : Int32)) (1 : Int32) (own_acc (XT.ushr xv (6 : Int32)) (1 : Int32) j5 ((1 : Int64) <<< (xv.toInt64 &&& 63))) ((1 : Int64) <<< (yv.toInt64 &&& 63))) ((1 : Int64) <<< (zv.toInt64 &&& 63))) := by
          rw [own_addacc (own_ix hxv) (kw := (1 : Int32)) (by decide) (by decide), own_addacc (own_ix hyv) (kw := (1 : Int32)) (by decide) (by decide)]
          show own_acc (XT.ushr xv (6 : Int32)) (1 : Int32) (own_acc (XT.ushr yv (6 : Int32)) (1 : Int32) (j5) ((0 : Int64) ||| ((1 : Int64) <<< (yv.toInt64 &&& 63)))) (((0 : Int64) ||| ((1 : Int64) <<< (xv.toInt64 &&& 63))) ||| ((1 : Int64) <<< (zv.toInt64 &&& 63))) = _
          try rw [← cq1042]
          (try simp only [own_z]) <;> by_cases uxv : XT.ushr xv (6 : Int32) = (1 : Int32) <;> by_cases uyv : XT.ushr yv (6 : Int32) = (1 : Int32) <;> simp [own_acc, uxv, uyv, Int64.or_assoc, Int64.or_comm, own_orl]
        have e1080 : (own_add (own_add (own_f j4 j5 (j4 ^^^ (-1 : Int64)) (j4 ^^^ j5)) (XT.ushr yv (6 : Int32)).toNatClampNeg ((0 : Int64) ||| ((1 : Int64) <<< (yv.toInt64 &&& 63)))) (XT.ushr xv (6 : Int32)).toNatClampNeg (((0 : Int64) ||| ((1 : Int64) <<< (xv.toInt64 &&& 63))) ||| ((1 : Int64) <<< (zv.toInt64 &&& 63)))) 2 = (own_acc (XT.ushr zv (6 : Int32)) (2 : Int32) (own_acc (XT.ushr yv (6 : Int32)) (2 : Int32) (own_acc (XT.ushr xv (6 : Int32)) (2 : Int32) (j4 ^^^ (-1 : Int64)) ((1 : Int64) <<< (xv.toInt64 &&& 63))) ((1 : Int64) <<< (yv.toInt64 &&& 63))) ((1 : Int64) <<< (zv.toInt64 &&& 63))) := by
          rw [own_addacc (own_ix hxv) (kw := (2 : Int32)) (by decide) (by decide), own_addacc (own_ix hyv) (kw := (2 : Int32)) (by decide) (by decide)]
          show own_acc (XT.ushr xv (6 : Int32)) (2 : Int32) (own_acc (XT.ushr yv (6 : Int32)) (2 : Int32) ((j4 ^^^ (-1 : Int64))) ((0 : Int64) ||| ((1 : Int64) <<< (yv.toInt64 &&& 63)))) (((0 : Int64) ||| ((1 : Int64) <<< (xv.toInt64 &&& 63))) ||| ((1 : Int64) <<< (zv.toInt64 &&& 63))) = _
          try rw [← cq1042]
          (try simp only [own_z]) <;> by_cases uxv : XT.ushr xv (6 : Int32) = (2 : Int32) <;> by_cases uyv : XT.ushr yv (6 : Int32) = (2 : Int32) <;> simp [own_acc, uxv, uyv, Int64.or_assoc, Int64.or_comm, own_orl]
        have e1081 : (own_add (own_add (own_f j4 j5 (j4 ^^^ (-1 : Int64)) (j4 ^^^ j5)) (XT.ushr yv (6 : Int32)).toNatClampNeg ((0 : Int64) ||| ((1 : Int64) <<< (yv.toInt64 &&& 63)))) (XT.ushr xv (6 : Int32)).toNatClampNeg (((0 : Int64) ||| ((1 : Int64) <<< (xv.toInt64 &&& 63))) ||| ((1 : Int64) <<< (zv.toInt64 &&& 63)))) 3 = (own_acc (XT.ushr zv (6 : Int32)) (3 : Int32) (own_acc (XT.ushr yv (6 : Int32)) (3 : Int32) (own_acc (XT.ushr xv (6 : Int32)) (3 : Int32) (j4 ^^^ j5) ((1 : Int64) <<< (xv.toInt64 &&& 63))) ((1 : Int64) <<< (yv.toInt64 &&& 63))) ((1 : Int64) <<< (zv.toInt64 &&& 63))) := by
          rw [own_addacc (own_ix hxv) (kw := (3 : Int32)) (by decide) (by decide), own_addacc (own_ix hyv) (kw := (3 : Int32)) (by decide) (by decide)]
          show own_acc (XT.ushr xv (6 : Int32)) (3 : Int32) (own_acc (XT.ushr yv (6 : Int32)) (3 : Int32) ((j4 ^^^ j5)) ((0 : Int64) ||| ((1 : Int64) <<< (yv.toInt64 &&& 63)))) (((0 : Int64) ||| ((1 : Int64) <<< (xv.toInt64 &&& 63))) ||| ((1 : Int64) <<< (zv.toInt64 &&& 63))) = _
          try rw [← cq1042]
          (try simp only [own_z]) <;> by_cases uxv : XT.ushr xv (6 : Int32) = (3 : Int32) <;> by_cases uyv : XT.ushr yv (6 : Int32) = (3 : Int32) <;> simp [own_acc, uxv, uyv, Int64.or_assoc, Int64.or_comm, own_orl]
        have F1082 := (Exa.keep F1041 K1042)
        exact J3_2_1 _ _ _ bi1032 bw1032 k11032 k21032 (XT.ushr yv (6 : Int32)) (XT.ushr xv (6 : Int32)) ((0 : Int64) ||| ((1 : Int64) <<< (yv.toInt64 &&& 63))) (((0 : Int64) ||| ((1 : Int64) <<< (xv.toInt64 &&& 63))) ||| ((1 : Int64) <<< (zv.toInt64 &&& 63))) (X1042.more (by decide) (by decide)) e1042 O1077 N1042a F1082 Q1042_0 Q1042_1 Q1042_2 Q1042_3 Q1042_4 Q1042_5 f1034 f1036 n1033 n1035 nn1032 (own_ix hyv) (own_ix hxv) e1078 e1079 e1080 e1081
      · have N1042a := Fr.app N1039a N1042
        have n1083 : a899 ≠ bi1042 := Nat.ne_of_lt (Nat.lt_of_lt_of_le (F1041.lt) ga1042)
        have n1084 : bi1032 ≠ bi1042 := Nat.ne_of_lt (Nat.lt_of_lt_of_le (Q1039_4.lt) ga1042)
        have n1085 : bw1032 ≠ bi1042 := Nat.ne_of_lt (Nat.lt_of_lt_of_le (Q1039_5.lt) ga1042)
        have f1086 : Z.heap.size ≤ bi1042 := Nat.le_trans (O1040).1 ga1042
        have n1087 : a899 ≠ bw1042 := Nat.ne_of_lt (Nat.lt_of_lt_of_le (F1041.lt) gb1042)
        have n1088 : bi1032 ≠ bw1042 := Nat.ne_of_lt (Nat.lt_of_lt_of_le (Q1039_4.lt) gb1042)
        have n1089 : bw1032 ≠ bw1042 := Nat.ne_of_lt (Nat.lt_of_lt_of_le (Q1039_5.lt) gb1042)
        have f1090 : Z.heap.size ≤ bw1042 := Nat.le_trans (O1040).1 gb1042
        have O1091 : Ext Z.heap h1042 := xk O1040 K1042 (allS f899 (allS f1034 (allS f1036 all0)))
        show Ends p e below s _ _ _ T1042 (mkF m 74 #[iv i0, iv i1, iv i2, iv i3, .val (.long j4), .second, .val (.long j5), .second, iv (3 : Int32), iv xv, iv yv, iv zv, rv a899, .unset, .unset, .unset, .unset, .unset, .unset, .unset, .unset, .unset] [])
        have e1092 : (own_add (own_add (own_add (own_f j4 j5 (j4 ^^^ (-1 : Int64)) (j4 ^^^ j5)) (XT.ushr yv (6 : Int32)).toNatClampNeg ((0 : Int64) ||| ((1 : Int64) <<< (yv.toInt64 &&& 63)))) (XT.ushr xv (6 : Int32)).toNatClampNeg ((0 : Int64) ||| ((1 : Int64) <<< (xv.toInt64 &&& 63)))) (XT.ushr zv (6 : Int32)).toNatClampNeg ((0 : Int64) ||| ((1 : Int64) <<< (zv.toInt64 &&& 63)))) 0 = (own_acc (XT.ushr zv (6 : Int32)) (0 : Int32) (own_acc (XT.ushr yv (6 : Int32)) (0 : Int32) (own_acc (XT.ushr xv (6 : Int32)) (0 : Int32) j4 ((1 : Int64) <<< (xv.toInt64 &&& 63))) ((1 : Int64) <<< (yv.toInt64 &&& 63))) ((1 : Int64) <<< (zv.toInt64 &&& 63))) := by
          rw [own_addacc (own_ix hzv) (kw := (0 : Int32)) (by decide) (by decide), own_addacc (own_ix hxv) (kw := (0 : Int32)) (by decide) (by decide), own_addacc (own_ix hyv) (kw := (0 : Int32)) (by decide) (by decide)]
          show own_acc (XT.ushr zv (6 : Int32)) (0 : Int32) (own_acc (XT.ushr xv (6 : Int32)) (0 : Int32) (own_acc (XT.ushr yv (6 : Int32)) (0 : Int32) (j4) ((0 : Int64) ||| ((1 : Int64) <<< (yv.toInt64 &&& 63)))) ((0 : Int64) ||| ((1 : Int64) <<< (xv.toInt64 &&& 63)))) ((0 : Int64) ||| ((1 : Int64) <<< (zv.toInt64 &&& 63))) = _
          (try simp only [own_z]) <;> by_cases uxv : XT.ushr xv (6 : Int32) = (0 : Int32) <;> by_cases uyv : XT.ushr yv (6 : Int32) = (0 : Int32) <;> by_cases uzv : XT.ushr zv (6 : Int32) = (0 : Int32) <;> simp [own_acc, uxv, uyv, uzv, Int64.or_assoc, Int64.or_comm, own_orl]
        have e1093 : (own_add (own_add (own_add (own_f j4 j5 (j4 ^^^ (-1 : Int64)) (j4 ^^^ j5)) (XT.ushr yv (6 : Int32)).toNatClampNeg ((0 : Int64) ||| ((1 : Int64) <<< (yv.toInt64 &&& 63)))) (XT.ushr xv (6 : Int32)).toNatClampNeg ((0 : Int64) ||| ((1 : Int64) <<< (xv.toInt64 &&& 63)))) (XT.ushr zv (6 : Int32)).toNatClampNeg ((0 : Int64) ||| ((1 : Int64) <<< (zv.toInt64 &&& 63)))) 1 = (own_acc (XT.ushr zv (6 : Int32)) (1 : Int32) (own_acc (XT.ushr yv (6 : Int32)) (1 : Int32) (own_acc (XT.ushr xv (6 : Int32)) (1 : Int32) j5 ((1 : Int64) <<< (xv.toInt64 &&& 63))) ((1 : Int64) <<< (yv.toInt64 &&& 63))) ((1 : Int64) <<< (zv.toInt64 &&& 63))) := by
          rw [own_addacc (own_ix hzv) (kw := (1 : Int32)) (by decide) (by decide), own_addacc (own_ix hxv) (kw := (1 : Int32)) (by decide) (by decide), own_addacc (own_ix hyv) (kw := (1 : Int32)) (by decide) (by decide)]
          show own_acc (XT.ushr zv (6 : Int32)) (1 : Int32) (own_acc (XT.ushr xv (6 : Int32)) (1 : Int32) (own_acc (XT.ushr yv (6 : Int32)) (1 : Int32) (j5) ((0 : Int64) ||| ((1 : Int64) <<< (yv.toInt64 &&& 63)))) ((0 : Int64) ||| ((1 : Int64) <<< (xv.toInt64 &&& 63)))) ((0 : Int64) ||| ((1 : Int64) <<< (zv.toInt64 &&& 63))) = _
          (try simp only [own_z]) <;> by_cases uxv : XT.ushr xv (6 : Int32) = (1 : Int32) <;> by_cases uyv : XT.ushr yv (6 : Int32) = (1 : Int32) <;> by_cases uzv : XT.ushr zv (6 : Int32) = (1 : Int32) <;> simp [own_acc, uxv, uyv, uzv, Int64.or_assoc, Int64.or_comm, own_orl]
        have e1094 : (own_add (own_add (own_add (own_f j4 j5 (j4 ^^^ (-1 : Int64)) (j4 ^^^ j5)) (XT.ushr yv (6 : Int32)).toNatClampNeg ((0 : Int64) ||| ((1 : Int64) <<< (yv.toInt64 &&& 63)))) (XT.ushr xv (6 : Int32)).toNatClampNeg ((0 : Int64) ||| ((1 : Int64) <<< (xv.toInt64 &&& 63)))) (XT.ushr zv (6 : Int32)).toNatClampNeg ((0 : Int64) ||| ((1 : Int64) <<< (zv.toInt64 &&& 63)))) 2 = (own_acc (XT.ushr zv (6 : Int32)) (2 : Int32) (own_acc (XT.ushr yv (6 : Int32)) (2 : Int32) (own_acc (XT.ushr xv (6 : Int32)) (2 : Int32) (j4 ^^^ (-1 : Int64)) ((1 : Int64) <<< (xv.toInt64 &&& 63))) ((1 : Int64) <<< (yv.toInt64 &&& 63))) ((1 : Int64) <<< (zv.toInt64 &&& 63))) := by
          rw [own_addacc (own_ix hzv) (kw := (2 : Int32)) (by decide) (by decide), own_addacc (own_ix hxv) (kw := (2 : Int32)) (by decide) (by decide), own_addacc (own_ix hyv) (kw := (2 : Int32)) (by decide) (by decide)]
          show own_acc (XT.ushr zv (6 : Int32)) (2 : Int32) (own_acc (XT.ushr xv (6 : Int32)) (2 : Int32) (own_acc (XT.ushr yv (6 : Int32)) (2 : Int32) ((j4 ^^^ (-1 : Int64))) ((0 : Int64) ||| ((1 : Int64) <<< (yv.toInt64 &&& 63)))) ((0 : Int64) ||| ((1 : Int64) <<< (xv.toInt64 &&& 63)))) ((0 : Int64) ||| ((1 : Int64) <<< (zv.toInt64 &&& 63))) = _
          (try simp only [own_z]) <;> by_cases uxv : XT.ushr xv (6 : Int32) = (2 : Int32) <;> by_cases uyv : XT.ushr yv (6 : Int32) = (2 : Int32) <;> by_cases uzv : XT.ushr zv (6 : Int32) = (2 : Int32) <;> simp [own_acc, uxv, uyv, uzv, Int64.or_assoc, Int64.or_comm, own_orl]
        have e1095 : (own_add (own_add (own_add (own_f j4 j5 (j4 ^^^ (-1 : Int64)) (j4 ^^^ j5)) (XT.ushr yv (6 : Int32)).toNatClampNeg ((0 : Int64) ||| ((1 : Int64) <<< (yv.toInt64 &&& 63)))) (XT.ushr xv (6 : Int32)).toNatClampNeg ((0 : Int64) ||| ((1 : Int64) <<< (xv.toInt64 &&& 63)))) (XT.ushr zv (6 : Int32)).toNatClampNeg ((0 : Int64) ||| ((1 : Int64) <<< (zv.toInt64 &&& 63)))) 3 = (own_acc (XT.ushr zv (6 : Int32)) (3 : Int32) (own_acc (XT.ushr yv (6 : Int32)) (3 : Int32) (own_acc (XT.ushr xv (6 : Int32)) (3 : Int32) (j4 ^^^ j5) ((1 : Int64) <<< (xv.toInt64 &&& 63))) ((1 : Int64) <<< (yv.toInt64 &&& 63))) ((1 : Int64) <<< (zv.toInt64 &&& 63))) := by
          rw [own_addacc (own_ix hzv) (kw := (3 : Int32)) (by decide) (by decide), own_addacc (own_ix hxv) (kw := (3 : Int32)) (by decide) (by decide), own_addacc (own_ix hyv) (kw := (3 : Int32)) (by decide) (by decide)]
          show own_acc (XT.ushr zv (6 : Int32)) (3 : Int32) (own_acc (XT.ushr xv (6 : Int32)) (3 : Int32) (own_acc (XT.ushr yv (6 : Int32)) (3 : Int32) ((j4 ^^^ j5)) ((0 : Int64) ||| ((1 : Int64) <<< (yv.toInt64 &&& 63)))) ((0 : Int64) ||| ((1 : Int64) <<< (xv.toInt64 &&& 63)))) ((0 : Int64) ||| ((1 : Int64) <<< (zv.toInt64 &&& 63))) = _
          (try simp only [own_z]) <;> by_cases uxv : XT.ushr xv (6 : Int32) = (3 : Int32) <;> by_cases uyv : XT.ushr yv (6 : Int32) = (3 : Int32) <;> by_cases uzv : XT.ushr zv (6 : Int32) = (3 : Int32) <;> simp [own_acc, uxv, uyv, uzv, Int64.or_assoc, Int64.or_comm, own_orl]
        have F1096 := (Exa.keep F1041 K1042)
        exact J3_3_0 _ _ _ bi1042 bw1042 k11042 k21042 (XT.ushr yv (6 : Int32)) (XT.ushr xv (6 : Int32)) (XT.ushr zv (6 : Int32)) ((0 : Int64) ||| ((1 : Int64) <<< (yv.toInt64 &&& 63))) ((0 : Int64) ||| ((1 : Int64) <<< (xv.toInt64 &&& 63))) ((0 : Int64) ||| ((1 : Int64) <<< (zv.toInt64 &&& 63))) (X1042.more (by decide) (by decide)) e1042 O1091 N1042a F1096 Q1042_0 Q1042_1 Q1042_2 Q1042_3 Q1042_4 Q1042_5 f1086 f1090 n1083 n1087 nn1042 (own_ix hyv) (own_ix hxv) (own_ix hzv) e1092 e1093 e1094 e1095
    · have N1039a := Fr.app N1032a N1039
      have O1097 : Ext Z.heap h1039 := xk O1037 K1039 (allS f899 (allS f1034 (allS f1036 all0)))
      show Ends p e below s _ _ _ T1039 (mkF m 61 #[iv i0, iv i1, iv i2, iv i3, .val (.long j4), .second, .val (.long j5), .second, iv (3 : Int32), iv xv, iv yv, iv zv, rv a899, .unset, .unset, .unset, .unset, .unset, .unset, .unset, .unset, .unset] [])
      refine go (fun _ => XS.iload X1039.here hx rfl (hb hby at_61) rfl) ?_
      refine go (fun _ => XT.iconstV X1039.here hx rfl (3 : Int32) (hb hby at_63) (by decide)) ?_
      show Ends p e below s _ _ _ T1039 (mkF m 64 #[iv i0, iv i1, iv i2, iv i3, .val (.long j4), .second, .val (.long j5), .second, iv (3 : Int32), iv xv, iv yv, iv zv, rv a899, .unset, .unset, .unset, .unset, .unset, .unset, .unset, .unset, .unset] [(.int (3 : Int32)), (.int (3 : Int32))])
      refine go (fun _ => XS.icmpNo X1039.here hx rfl (hb hby at_64) rfl (XT.ii_lt_f ((by decide) : ¬ ((3 : Int32) < (3 : Int32))))) ?_
      show Ends p e below s _ _ _ T1039 (mkF m 67 #[iv i0, iv i1, iv i2, iv i3, .val (.long j4), .second, .val (.long j5), .second, iv (3 : Int32), iv xv, iv yv, iv zv, rv a899, .unset, .unset, .unset, .unset, .unset, .unset, .unset, .unset, .unset] [])
      refine go (fun _ => XS.aload X1039.here hx rfl (hb hby at_67) rfl rfl) ?_
      refine go (fun _ => XS.iload X1039.here hx rfl (hb hby at_69) rfl) ?_
      show Ends p e below s _ _ _ T1039 (mkF m 71 #[iv i0, iv i1, iv i2, iv i3, .val (.long j4), .second, .val (.long j5), .second, iv (3 : Int32), iv xv, iv yv, iv zv, rv a899, .unset, .unset, .unset, .unset, .unset, .unset, .unset, .unset, .unset] [(.int zv), (.ref a899)])
      have F1098 := (Exa.keep F1038 K1039)
      refine cVirt X1039 hx hZ hown (by rw [hml]; rfl) e1039 (hwi hw 17 rfl) (hwi hw 18 rfl) (hwi hw 20 rfl) (hwi hw 19 rfl) (hwi hw 2 rfl) (hwi hw 21 rfl) (notFace_of_selects (args := #[]) (mvT hZ (hwi hw 20 rfl))) a899 F1098 [(.int zv)] [] rfl (rm_set1 hw a899 bi1032 bw1032 k11032 k21032 (XT.ushr xv (6 : Int32)) (((0 : Int64) ||| ((1 : Int64) <<< (xv.toInt64 &&& 63))) ||| ((1 : Int64) <<< (yv.toInt64 &&& 63))) zv _ O1097 f899 F1098 Q1039_0 Q1039_1 Q1039_2 Q1039_3 Q1039_4 Q1039_5 f1034 f1036 n1033 n1035 nn1032) (hb hby at_71) rfl (lenOf pd_5 rfl) (by decide) (by decide) (Nat.le_of_ble_eq_true rfl) (by decide) (by decide) ?_
      rintro v1099 T1099 h1099 L1099 X1099 e1099 (⟨rfl, N1099, cq1099, ⟨K1099, Q1099_0, Q1099_1, Q1099_2, Q1099_3, Q1099_4, Q1099_5⟩⟩ | ⟨rfl, N1099, cq1099, ⟨K1099, Q1099_0, Q1099_1, Q1099_2, Q1099_3, Q1099_4, Q1099_5⟩⟩ | ⟨rfl, N1099, cq1099, ⟨K1099, Q1099_0, Q1099_1, Q1099_2, Q1099_3, Q1099_4, Q1099_5⟩⟩)
      · have N1099a := Fr.app N1039a N1099
        have O1100 : Ext Z.heap h1099 := xk O1097 K1099 (allS f899 (allS f1034 (allS f1036 all0)))
        show Ends p e below s _ _ _ T1099 (mkF m 74 #[iv i0, iv i1, iv i2, iv i3, .val (.long j4), .second, .val (.long j5), .second, iv (3 : Int32), iv xv, iv yv, iv zv, rv a899, .unset, .unset, .unset, .unset, .unset, .unset, .unset, .unset, .unset] [])
        have e1101 : (own_add (own_add (own_f j4 j5 (j4 ^^^ (-1 : Int64)) (j4 ^^^ j5)) (XT.ushr zv (6 : Int32)).toNatClampNeg ((0 : Int64) ||| ((1 : Int64) <<< (zv.toInt64 &&& 63)))) (XT.ushr xv (6 : Int32)).toNatClampNeg (((0 : Int64) ||| ((1 : Int64) <<< (xv.toInt64 &&& 63))) ||| ((1 : Int64) <<< (yv.toInt64 &&& 63)))) 0 = (own_acc (XT.ushr zv (6 : Int32)) (0 : Int32) (own_acc (XT.ushr yv (6 : Int32)) (0 : Int32) (own_acc (XT.ushr xv (6 : Int32)) (0 : Int32) j4 ((1 : Int64) <<< (xv.toInt64 &&& 63))) ((1 : Int64) <<< (yv.toInt64 &&& 63))) ((1 : Int64) <<< (zv.toInt64 &&& 63))) := by
          rw [own_addacc (own_ix hxv) (kw := (0 : Int32)) (by decide) (by decide), own_addacc (own_ix hzv) (kw := (0 : Int32)) (by decide) (by decide)]
          show own_acc (XT.ushr xv (6 : Int32)) (0 : Int32) (own_acc (XT.ushr zv (6 : Int32)) (0 : Int32) (j4) ((0 : Int64) ||| ((1 : Int64) <<< (zv.toInt64 &&& 63)))) (((0 : Int64) ||| ((1 : Int64) <<< (xv.toInt64 &&& 63))) ||| ((1 : Int64) <<< (yv.toInt64 &&& 63))) = _
          try rw [← cq1039]
          (try simp only [own_z]) <;> by_cases uxv : XT.ushr xv (6 : Int32) = (0 : Int32) <;> by_cases uzv : XT.ushr zv (6 : Int32) = (0 : Int32) <;> simp [own_acc, uxv, uzv, Int64.or_assoc, Int64.or_comm, own_orl]
        have e1102 : (own_add (own_add (own_f j4 j5 (j4 ^^^ (-1 : Int64)) (j4 ^^^ j5)) (XT.ushr zv (6 : Int32)).toNatClampNeg ((0 : Int64) ||| ((1 : Int64) <<< (zv.toInt64 &&& 63)))) (XT.ushr xv (6 : Int32)).toNatClampNeg (((0 : Int64) ||| ((1 : Int64) <<< (xv.toInt64 &&& 63))) ||| ((1 : Int64) <<< (yv.toInt64 &&& 63)))) 1 = (own_acc (XT.ushr zv (6 : Int32)) (1 : Int32) (own_acc (XT.ushr yv (6 : Int32)) (1 : Int32) (own_acc (XT.ushr xv (6 : Int32)) (1 : Int32) j5 ((1 : Int64) <<< (xv.toInt64 &&& 63))) ((1 : Int64) <<< (yv.toInt64 &&& 63))) ((1 : Int64) <<< (zv.toInt64 &&& 63))) := by
          rw [own_addacc (own_ix hxv) (kw := (1 : Int32)) (by decide) (by decide), own_addacc (own_ix hzv) (kw := (1 : Int32)) (by decide) (by decide)]
          show own_acc (XT.ushr xv (6 : Int32)) (1 : Int32) (own_acc (XT.ushr zv (6 : Int32)) (1 : Int32) (j5) ((0 : Int64) ||| ((1 : Int64) <<< (zv.toInt64 &&& 63)))) (((0 : Int64) ||| ((1 : Int64) <<< (xv.toInt64 &&& 63))) ||| ((1 : Int64) <<< (yv.toInt64 &&& 63))) = _
          try rw [← cq1039]
          (try simp only [own_z]) <;> by_cases uxv : XT.ushr xv (6 : Int32) = (1 : Int32) <;> by_cases uzv : XT.ushr zv (6 : Int32) = (1 : Int32) <;> simp [own_acc, uxv, uzv, Int64.or_assoc, Int64.or_comm, own_orl]
        have e1103 : (own_add (own_add (own_f j4 j5 (j4 ^^^ (-1 : Int64)) (j4 ^^^ j5)) (XT.ushr zv (6 : Int32)).toNatClampNeg ((0 : Int64) ||| ((1 : Int64) <<< (zv.toInt64 &&& 63)))) (XT.ushr xv (6 : Int32)).toNatClampNeg (((0 : Int64) ||| ((1 : Int64) <<< (xv.toInt64 &&& 63))) ||| ((1 : Int64) <<< (yv.toInt64 &&& 63)))) 2 = (own_acc (XT.ushr zv (6 : Int32)) (2 : Int32) (own_acc (XT.ushr yv (6 : Int32)) (2 : Int32) (own_acc (XT.ushr xv (6 : Int32)) (2 : Int32) (j4 ^^^ (-1 : Int64)) ((1 : Int64) <<< (xv.toInt64 &&& 63))) ((1 : Int64) <<< (yv.toInt64 &&& 63))) ((1 : Int64) <<< (zv.toInt64 &&& 63))) := by
          rw [own_addacc (own_ix hxv) (kw := (2 : Int32)) (by decide) (by decide), own_addacc (own_ix hzv) (kw := (2 : Int32)) (by decide) (by decide)]
          show own_acc (XT.ushr xv (6 : Int32)) (2 : Int32) (own_acc (XT.ushr zv (6 : Int32)) (2 : Int32) ((j4 ^^^ (-1 : Int64))) ((0 : Int64) ||| ((1 : Int64) <<< (zv.toInt64 &&& 63)))) (((0 : Int64) ||| ((1 : Int64) <<< (xv.toInt64 &&& 63))) ||| ((1 : Int64) <<< (yv.toInt64 &&& 63))) = _
          try rw [← cq1039]
          (try simp only [own_z]) <;> by_cases uxv : XT.ushr xv (6 : Int32) = (2 : Int32) <;> by_cases uzv : XT.ushr zv (6 : Int32) = (2 : Int32) <;> simp [own_acc, uxv, uzv, Int64.or_assoc, Int64.or_comm, own_orl]
        have e1104 : (own_add (own_add (own_f j4 j5 (j4 ^^^ (-1 : Int64)) (j4 ^^^ j5)) (XT.ushr zv (6 : Int32)).toNatClampNeg ((0 : Int64) ||| ((1 : Int64) <<< (zv.toInt64 &&& 63)))) (XT.ushr xv (6 : Int32)).toNatClampNeg (((0 : Int64) ||| ((1 : Int64) <<< (xv.toInt64 &&& 63))) ||| ((1 : Int64) <<< (yv.toInt64 &&& 63)))) 3 = (own_acc (XT.ushr zv (6 : Int32)) (3 : Int32) (own_acc (XT.ushr yv (6 : Int32)) (3 : Int32) (own_acc (XT.ushr xv (6 : Int32)) (3 : Int32) (j4 ^^^ j5) ((1 : Int64) <<< (xv.toInt64 &&& 63))) ((1 : Int64) <<< (yv.toInt64 &&& 63))) ((1 : Int64) <<< (zv.toInt64 &&& 63))) := by
          rw [own_addacc (own_ix hxv) (kw := (3 : Int32)) (by decide) (by decide), own_addacc (own_ix hzv) (kw := (3 : Int32)) (by decide) (by decide)]
          show own_acc (XT.ushr xv (6 : Int32)) (3 : Int32) (own_acc (XT.ushr zv (6 : Int32)) (3 : Int32) ((j4 ^^^ j5)) ((0 : Int64) ||| ((1 : Int64) <<< (zv.toInt64 &&& 63)))) (((0 : Int64) ||| ((1 : Int64) <<< (xv.toInt64 &&& 63))) ||| ((1 : Int64) <<< (yv.toInt64 &&& 63))) = _
          try rw [← cq1039]
          (try simp only [own_z]) <;> by_cases uxv : XT.ushr xv (6 : Int32) = (3 : Int32) <;> by_cases uzv : XT.ushr zv (6 : Int32) = (3 : Int32) <;> simp [own_acc, uxv, uzv, Int64.or_assoc, Int64.or_comm, own_orl]
        have F1105 := (Exa.keep F1098 K1099)
        exact J3_2_0 _ _ _ bi1032 bw1032 k11032 k21032 (XT.ushr zv (6 : Int32)) (XT.ushr xv (6 : Int32)) ((0 : Int64) ||| ((1 : Int64) <<< (zv.toInt64 &&& 63))) (((0 : Int64) ||| ((1 : Int64) <<< (xv.toInt64 &&& 63))) ||| ((1 : Int64) <<< (yv.toInt64 &&& 63))) (X1099.more (by decide) (by decide)) e1099 O1100 N1099a F1105 Q1099_0 Q1099_1 Q1099_2 Q1099_3 Q1099_4 Q1099_5 f1034 f1036 n1033 n1035 nn1032 (own_ix hzv) (own_ix hxv) e1101 e1102 e1103 e1104
      · have N1099a := Fr.app N1039a N1099
        have O1106 : Ext Z.heap h1099 := xk O1097 K1099 (allS f899 (allS f1034 (allS f1036 all0)))
        show Ends p e below s _ _ _ T1099 (mkF m 74 #[iv i0, iv i1, iv i2, iv i3, .val (.long j4), .second, .val (.long j5), .second, iv (3 : Int32), iv xv, iv yv, iv zv, rv a899, .unset, .unset, .unset, .unset, .unset, .unset, .unset, .unset, .unset] [])
        have e1107 : (own_add (own_f j4 j5 (j4 ^^^ (-1 : Int64)) (j4 ^^^ j5)) (XT.ushr xv (6 : Int32)).toNatClampNeg ((((0 : Int64) ||| ((1 : Int64) <<< (xv.toInt64 &&& 63))) ||| ((1 : Int64) <<< (yv.toInt64 &&& 63))) ||| ((1 : Int64) <<< (zv.toInt64 &&& 63)))) 0 = (own_acc (XT.ushr zv (6 : Int32)) (0 : Int32) (own_acc (XT.ushr yv (6 : Int32)) (0 : Int32) (own_acc (XT.ushr xv (6 : Int32)) (0 : Int32) j4 ((1 : Int64) <<< (xv.toInt64 &&& 63))) ((1 : Int64) <<< (yv.toInt64 &&& 63))) ((1 : Int64) <<< (zv.toInt64 &&& 63))) := by
          rw [own_addacc (own_ix hxv) (kw := (0 : Int32)) (by decide) (by decide)]
          show own_acc (XT.ushr xv (6 : Int32)) (0 : Int32) (j4) ((((0 : Int64) ||| ((1 : Int64) <<< (xv.toInt64 &&& 63))) ||| ((1 : Int64) <<< (yv.toInt64 &&& 63))) ||| ((1 : Int64) <<< (zv.toInt64 &&& 63))) = _
          try rw [← cq1099]
          try rw [← cq1039]
          (try simp only [own_z]) <;> by_cases uxv : XT.ushr xv (6 : Int32) = (0 : Int32) <;> simp [own_acc, uxv, Int64.or_assoc, Int64.or_comm, own_orl]
        have e1108 : (own_add (own_f j4 j5 (j4 ^^^ (-1 : Int64)) (j4 ^^^ j5)) (XT.ushr xv (6 : Int32)).toNatClampNeg ((((0 : Int64) ||| ((1 : Int64) <<< (xv.toInt64 &&& 63))) ||| ((1 : Int64) <<< (yv.toInt64 &&& 63))) ||| ((1 : Int64) <<< (zv.toInt64 &&& 63)))) 1 = (own_acc (XT.ushr zv (6 : Int32)) (1 : Int32) (own_acc (XT.ushr yv (6 : Int32)) (1 : Int32) (own_acc (XT.ushr xv (6 : Int32)) (1 : Int32) j5 ((1 : Int64) <<< (xv.toInt64 &&& 63))) ((1 : Int64) <<< (yv.toInt64 &&& 63))) ((1 : Int64) <<< (zv.toInt64 &&& 63))) := by
          rw [own_addacc (own_ix hxv) (kw := (1 : Int32)) (by decide) (by decide)]
          show own_acc (XT.ushr xv (6 : Int32)) (1 : Int32) (j5) ((((0 : Int64) ||| ((1 : Int64) <<< (xv.toInt64 &&& 63))) ||| ((1 : Int64) <<< (yv.toInt64 &&& 63))) ||| ((1 : Int64) <<< (zv.toInt64 &&& 63))) = _
          try rw [← cq1099]
          try rw [← cq1039]
          (try simp only [own_z]) <;> by_cases uxv : XT.ushr xv (6 : Int32) = (1 : Int32) <;> simp [own_acc, uxv, Int64.or_assoc, Int64.or_comm, own_orl]
        have e1109 : (own_add (own_f j4 j5 (j4 ^^^ (-1 : Int64)) (j4 ^^^ j5)) (XT.ushr xv (6 : Int32)).toNatClampNeg ((((0 : Int64) ||| ((1 : Int64) <<< (xv.toInt64 &&& 63))) ||| ((1 : Int64) <<< (yv.toInt64 &&& 63))) ||| ((1 : Int64) <<< (zv.toInt64 &&& 63)))) 2 = (own_acc (XT.ushr zv (6 : Int32)) (2 : Int32) (own_acc (XT.ushr yv (6 : Int32)) (2 : Int32) (own_acc (XT.ushr xv (6 : Int32)) (2 : Int32) (j4 ^^^ (-1 : Int64)) ((1 : Int64) <<< (xv.toInt64 &&& 63))) ((1 : Int64) <<< (yv.toInt64 &&& 63))) ((1 : Int64) <<< (zv.toInt64 &&& 63))) := by
          rw [own_addacc (own_ix hxv) (kw := (2 : Int32)) (by decide) (by decide)]
          show own_acc (XT.ushr xv (6 : Int32)) (2 : Int32) ((j4 ^^^ (-1 : Int64))) ((((0 : Int64) ||| ((1 : Int64) <<< (xv.toInt64 &&& 63))) ||| ((1 : Int64) <<< (yv.toInt64 &&& 63))) ||| ((1 : Int64) <<< (zv.toInt64 &&& 63))) = _
          try rw [← cq1099]
          try rw [← cq1039]
          (try simp only [own_z]) <;> by_cases uxv : XT.ushr xv (6 : Int32) = (2 : Int32) <;> simp [own_acc, uxv, Int64.or_assoc, Int64.or_comm, own_orl]
        have e1110 : (own_add (own_f j4 j5 (j4 ^^^ (-1 : Int64)) (j4 ^^^ j5)) (XT.ushr xv (6 : Int32)).toNatClampNeg ((((0 : Int64) ||| ((1 : Int64) <<< (xv.toInt64 &&& 63))) ||| ((1 : Int64) <<< (yv.toInt64 &&& 63))) ||| ((1 : Int64) <<< (zv.toInt64 &&& 63)))) 3 = (own_acc (XT.ushr zv (6 : Int32)) (3 : Int32) (own_acc (XT.ushr yv (6 : Int32)) (3 : Int32) (own_acc (XT.ushr xv (6 : Int32)) (3 : Int32) (j4 ^^^ j5) ((1 : Int64) <<< (xv.toInt64 &&& 63))) ((1 : Int64) <<< (yv.toInt64 &&& 63))) ((1 : Int64) <<< (zv.toInt64 &&& 63))) := by
          rw [own_addacc (own_ix hxv) (kw := (3 : Int32)) (by decide) (by decide)]
          show own_acc (XT.ushr xv (6 : Int32)) (3 : Int32) ((j4 ^^^ j5)) ((((0 : Int64) ||| ((1 : Int64) <<< (xv.toInt64 &&& 63))) ||| ((1 : Int64) <<< (yv.toInt64 &&& 63))) ||| ((1 : Int64) <<< (zv.toInt64 &&& 63))) = _
          try rw [← cq1099]
          try rw [← cq1039]
          (try simp only [own_z]) <;> by_cases uxv : XT.ushr xv (6 : Int32) = (3 : Int32) <;> simp [own_acc, uxv, Int64.or_assoc, Int64.or_comm, own_orl]
        have F1111 := (Exa.keep F1098 K1099)
        exact J3_1_0 _ _ _ bi1032 bw1032 k11032 k21032 (XT.ushr xv (6 : Int32)) ((((0 : Int64) ||| ((1 : Int64) <<< (xv.toInt64 &&& 63))) ||| ((1 : Int64) <<< (yv.toInt64 &&& 63))) ||| ((1 : Int64) <<< (zv.toInt64 &&& 63))) (X1099.more (by decide) (by decide)) e1099 O1106 N1099a F1111 Q1099_0 Q1099_1 Q1099_2 Q1099_3 Q1099_4 Q1099_5 f1034 f1036 n1033 n1035 nn1032 (own_ix hxv) e1107 e1108 e1109 e1110
      · have N1099a := Fr.app N1039a N1099
        have O1112 : Ext Z.heap h1099 := xk O1097 K1099 (allS f899 (allS f1034 (allS f1036 all0)))
        show Ends p e below s _ _ _ T1099 (mkF m 74 #[iv i0, iv i1, iv i2, iv i3, .val (.long j4), .second, .val (.long j5), .second, iv (3 : Int32), iv xv, iv yv, iv zv, rv a899, .unset, .unset, .unset, .unset, .unset, .unset, .unset, .unset, .unset] [])
        have e1113 : (own_add (own_add (own_f j4 j5 (j4 ^^^ (-1 : Int64)) (j4 ^^^ j5)) (XT.ushr xv (6 : Int32)).toNatClampNeg (((0 : Int64) ||| ((1 : Int64) <<< (xv.toInt64 &&& 63))) ||| ((1 : Int64) <<< (yv.toInt64 &&& 63)))) (XT.ushr zv (6 : Int32)).toNatClampNeg ((0 : Int64) ||| ((1 : Int64) <<< (zv.toInt64 &&& 63)))) 0 = (own_acc (XT.ushr zv (6 : Int32)) (0 : Int32) (own_acc (XT.ushr yv (6 : Int32)) (0 : Int32) (own_acc (XT.ushr xv (6 : Int32)) (0 : Int32) j4 ((1 : Int64) <<< (xv.toInt64 &&& 63))) ((1 : Int64) <<< (yv.toInt64 &&& 63))) ((1 : Int64) <<< (zv.toInt64 &&& 63))) := by
          rw [own_addacc (own_ix hzv) (kw := (0 : Int32)) (by decide) (by decide), own_addacc (own_ix hxv) (kw := (0 : Int32)) (by decide) (by decide)]
          show own_acc (XT.ushr zv (6 : Int32)) (0 : Int32) (own_acc (XT.ushr xv (6 : Int32)) (0 : Int32) (j4) (((0 : Int64) ||| ((1 : Int64) <<< (xv.toInt64 &&& 63))) ||| ((1 : Int64) <<< (yv.toInt64 &&& 63)))) ((0 : Int64) ||| ((1 : Int64) <<< (zv.toInt64 &&& 63))) = _
          try rw [← cq1039]
          (try simp only [own_z]) <;> by_cases uxv : XT.ushr xv (6 : Int32) = (0 : Int32) <;> by_cases uzv : XT.ushr zv (6 : Int32) = (0 : Int32) <;> simp [own_acc, uxv, uzv, Int64.or_assoc, Int64.or_comm, own_orl]
        have e1114 : (own_add (own_add (own_f j4 j5 (j4 ^^^ (-1 : Int64)) (j4 ^^^ j5)) (XT.ushr xv (6 : Int32)).toNatClampNeg (((0 : Int64) ||| ((1 : Int64) <<< (xv.toInt64 &&& 63))) ||| ((1 : Int64) <<< (yv.toInt64 &&& 63)))) (XT.ushr zv (6 : Int32)).toNatClampNeg ((0 : Int64) ||| ((1 : Int64) <<< (zv.toInt64 &&& 63)))) 1 = (own_acc (XT.ushr zv (6 : Int32)) (1 : Int32) (own_acc (XT.ushr yv (6 : Int32)) (1 : Int32) (own_acc (XT.ushr xv (6 : Int32)) (1 : Int32) j5 ((1 : Int64) <<< (xv.toInt64 &&& 63))) ((1 : Int64) <<< (yv.toInt64 &&& 63))) ((1 : Int64) <<< (zv.toInt64 &&& 63))) := by
          rw [own_addacc (own_ix hzv) (kw := (1 : Int32)) (by decide) (by decide), own_addacc (own_ix hxv) (kw := (1 : Int32)) (by decide) (by decide)]
          show own_acc (XT.ushr zv (6 : Int32)) (1 : Int32) (own_acc (XT.ushr xv (6 : Int32)) (1 : Int32) (j5) (((0 : Int64) ||| ((1 : Int64) <<< (xv.toInt64 &&& 63))) ||| ((1 : Int64) <<< (yv.toInt64 &&& 63)))) ((0 : Int64) ||| ((1 : Int64) <<< (zv.toInt64 &&& 63))) = _
          try rw [← cq1039]
          (try simp only [own_z]) <;> by_cases uxv : XT.ushr xv (6 : Int32) = (1 : Int32) <;> by_cases uzv : XT.ushr zv (6 : Int32) = (1 : Int32) <;> simp [own_acc, uxv, uzv, Int64.or_assoc, Int64.or_comm, own_orl]
        have e1115 : (own_add (own_add (own_f j4 j5 (j4 ^^^ (-1 : Int64)) (j4 ^^^ j5)) (XT.ushr xv (6 : Int32)).toNatClampNeg (((0 : Int64) ||| ((1 : Int64) <<< (xv.toInt64 &&& 63))) ||| ((1 : Int64) <<< (yv.toInt64 &&& 63)))) (XT.ushr zv (6 : Int32)).toNatClampNeg ((0 : Int64) ||| ((1 : Int64) <<< (zv.toInt64 &&& 63)))) 2 = (own_acc (XT.ushr zv (6 : Int32)) (2 : Int32) (own_acc (XT.ushr yv (6 : Int32)) (2 : Int32) (own_acc (XT.ushr xv (6 : Int32)) (2 : Int32) (j4 ^^^ (-1 : Int64)) ((1 : Int64) <<< (xv.toInt64 &&& 63))) ((1 : Int64) <<< (yv.toInt64 &&& 63))) ((1 : Int64) <<< (zv.toInt64 &&& 63))) := by
          rw [own_addacc (own_ix hzv) (kw := (2 : Int32)) (by decide) (by decide), own_addacc (own_ix hxv) (kw := (2 : Int32)) (by decide) (by decide)]
          show own_acc (XT.ushr zv (6 : Int32)) (2 : Int32) (own_acc (XT.ushr xv (6 : Int32)) (2 : Int32) ((j4 ^^^ (-1 : Int64))) (((0 : Int64) ||| ((1 : Int64) <<< (xv.toInt64 &&& 63))) ||| ((1 : Int64) <<< (yv.toInt64 &&& 63)))) ((0 : Int64) ||| ((1 : Int64) <<< (zv.toInt64 &&& 63))) = _
          try rw [← cq1039]
          (try simp only [own_z]) <;> by_cases uxv : XT.ushr xv (6 : Int32) = (2 : Int32) <;> by_cases uzv : XT.ushr zv (6 : Int32) = (2 : Int32) <;> simp [own_acc, uxv, uzv, Int64.or_assoc, Int64.or_comm, own_orl]
        have e1116 : (own_add (own_add (own_f j4 j5 (j4 ^^^ (-1 : Int64)) (j4 ^^^ j5)) (XT.ushr xv (6 : Int32)).toNatClampNeg (((0 : Int64) ||| ((1 : Int64) <<< (xv.toInt64 &&& 63))) ||| ((1 : Int64) <<< (yv.toInt64 &&& 63)))) (XT.ushr zv (6 : Int32)).toNatClampNeg ((0 : Int64) ||| ((1 : Int64) <<< (zv.toInt64 &&& 63)))) 3 = (own_acc (XT.ushr zv (6 : Int32)) (3 : Int32) (own_acc (XT.ushr yv (6 : Int32)) (3 : Int32) (own_acc (XT.ushr xv (6 : Int32)) (3 : Int32) (j4 ^^^ j5) ((1 : Int64) <<< (xv.toInt64 &&& 63))) ((1 : Int64) <<< (yv.toInt64 &&& 63))) ((1 : Int64) <<< (zv.toInt64 &&& 63))) := by
          rw [own_addacc (own_ix hzv) (kw := (3 : Int32)) (by decide) (by decide), own_addacc (own_ix hxv) (kw := (3 : Int32)) (by decide) (by decide)]
          show own_acc (XT.ushr zv (6 : Int32)) (3 : Int32) (own_acc (XT.ushr xv (6 : Int32)) (3 : Int32) ((j4 ^^^ j5)) (((0 : Int64) ||| ((1 : Int64) <<< (xv.toInt64 &&& 63))) ||| ((1 : Int64) <<< (yv.toInt64 &&& 63)))) ((0 : Int64) ||| ((1 : Int64) <<< (zv.toInt64 &&& 63))) = _
          try rw [← cq1039]
          (try simp only [own_z]) <;> by_cases uxv : XT.ushr xv (6 : Int32) = (3 : Int32) <;> by_cases uzv : XT.ushr zv (6 : Int32) = (3 : Int32) <;> simp [own_acc, uxv, uzv, Int64.or_assoc, Int64.or_comm, own_orl]
        have F1117 := (Exa.keep F1098 K1099)
        exact J3_2_0 _ _ _ bi1032 bw1032 k11032 k21032 (XT.ushr xv (6 : Int32)) (XT.ushr zv (6 : Int32)) (((0 : Int64) ||| ((1 : Int64) <<< (xv.toInt64 &&& 63))) ||| ((1 : Int64) <<< (yv.toInt64 &&& 63))) ((0 : Int64) ||| ((1 : Int64) <<< (zv.toInt64 &&& 63))) (X1099.more (by decide) (by decide)) e1099 O1112 N1099a F1117 Q1099_0 Q1099_1 Q1099_2 Q1099_3 Q1099_4 Q1099_5 f1034 f1036 n1033 n1035 nn1032 (own_ix hxv) (own_ix hzv) e1113 e1114 e1115 e1116
    · have N1039a := Fr.app N1032a N1039
      have O1118 : Ext Z.heap h1039 := xk O1037 K1039 (allS f899 (allS f1034 (allS f1036 all0)))
      show Ends p e below s _ _ _ T1039 (mkF m 61 #[iv i0, iv i1, iv i2, iv i3, .val (.long j4), .second, .val (.long j5), .second, iv (3 : Int32), iv xv, iv yv, iv zv, rv a899, .unset, .unset, .unset, .unset, .unset, .unset, .unset, .unset, .unset] [])
      refine go (fun _ => XS.iload X1039.here hx rfl (hb hby at_61) rfl) ?_
      refine go (fun _ => XT.iconstV X1039.here hx rfl (3 : Int32) (hb hby at_63) (by decide)) ?_
      show Ends p e below s _ _ _ T1039 (mkF m 64 #[iv i0, iv i1, iv i2, iv i3, .val (.long j4), .second, .val (.long j5), .second, iv (3 : Int32), iv xv, iv yv, iv zv, rv a899, .unset, .unset, .unset, .unset, .unset, .unset, .unset, .unset, .unset] [(.int (3 : Int32)), (.int (3 : Int32))])
      refine go (fun _ => XS.icmpNo X1039.here hx rfl (hb hby at_64) rfl (XT.ii_lt_f ((by decide) : ¬ ((3 : Int32) < (3 : Int32))))) ?_
      show Ends p e below s _ _ _ T1039 (mkF m 67 #[iv i0, iv i1, iv i2, iv i3, .val (.long j4), .second, .val (.long j5), .second, iv (3 : Int32), iv xv, iv yv, iv zv, rv a899, .unset, .unset, .unset, .unset, .unset, .unset, .unset, .unset, .unset] [])
      refine go (fun _ => XS.aload X1039.here hx rfl (hb hby at_67) rfl rfl) ?_
      refine go (fun _ => XS.iload X1039.here hx rfl (hb hby at_69) rfl) ?_
      show Ends p e below s _ _ _ T1039 (mkF m 71 #[iv i0, iv i1, iv i2, iv i3, .val (.long j4), .second, .val (.long j5), .second, iv (3 : Int32), iv xv, iv yv, iv zv, rv a899, .unset, .unset, .unset, .unset, .unset, .unset, .unset, .unset, .unset] [(.int zv), (.ref a899)])
      have F1119 := (Exa.keep F1038 K1039)
      refine cVirt X1039 hx hZ hown (by rw [hml]; rfl) e1039 (hwi hw 17 rfl) (hwi hw 18 rfl) (hwi hw 20 rfl) (hwi hw 19 rfl) (hwi hw 2 rfl) (hwi hw 21 rfl) (notFace_of_selects (args := #[]) (mvT hZ (hwi hw 20 rfl))) a899 F1119 [(.int zv)] [] rfl (rm_set2 hw a899 bi1032 bw1032 k11032 k21032 (XT.ushr xv (6 : Int32)) (XT.ushr yv (6 : Int32)) ((0 : Int64) ||| ((1 : Int64) <<< (xv.toInt64 &&& 63))) ((0 : Int64) ||| ((1 : Int64) <<< (yv.toInt64 &&& 63))) zv _ O1118 f899 F1119 Q1039_0 Q1039_1 Q1039_2 Q1039_3 Q1039_4 Q1039_5 f1034 f1036 n1033 n1035 nn1032) (hb hby at_71) rfl (lenOf pd_5 rfl) (by decide) (by decide) (Nat.le_of_ble_eq_true rfl) (by decide) (by decide) ?_
      rintro v1120 T1120 h1120 L1120 X1120 e1120 (⟨rfl, N1120, cq1120, ⟨bi1120, bw1120, k11120, k21120, K1120, ga1120, gb1120, nn1120, Q1120_0, Q1120_1, Q1120_2, Q1120_3, Q1120_4, Q1120_5⟩⟩ | ⟨rfl, N1120, cq1120, ⟨K1120, Q1120_0, Q1120_1, Q1120_2, Q1120_3, Q1120_4, Q1120_5⟩⟩ | ⟨rfl, N1120, cq1120, ⟨bi1120, bw1120, k11120, k21120, K1120, ga1120, gb1120, nn1120, Q1120_0, Q1120_1, Q1120_2, Q1120_3, Q1120_4, Q1120_5⟩⟩ | ⟨rfl, N1120, cq1120, ⟨K1120, Q1120_0, Q1120_1, Q1120_2, Q1120_3, Q1120_4, Q1120_5⟩⟩ | ⟨rfl, N1120, cq1120, ⟨bi1120, bw1120, k11120, k21120, K1120, ga1120, gb1120, nn1120, Q1120_0, Q1120_1, Q1120_2, Q1120_3, Q1120_4, Q1120_5⟩⟩)
      · have N1120a := Fr.app N1039a N1120
        have n1121 : a899 ≠ bi1120 := Nat.ne_of_lt (Nat.lt_of_lt_of_le (F1119.lt) ga1120)
        have n1122 : bi1032 ≠ bi1120 := Nat.ne_of_lt (Nat.lt_of_lt_of_le (Q1039_4.lt) ga1120)
        have n1123 : bw1032 ≠ bi1120 := Nat.ne_of_lt (Nat.lt_of_lt_of_le (Q1039_5.lt) ga1120)
        have f1124 : Z.heap.size ≤ bi1120 := Nat.le_trans (O1118).1 ga1120
        have n1125 : a899 ≠ bw1120 := Nat.ne_of_lt (Nat.lt_of_lt_of_le (F1119.lt) gb1120)
        have n1126 : bi1032 ≠ bw1120 := Nat.ne_of_lt (Nat.lt_of_lt_of_le (Q1039_4.lt) gb1120)
        have n1127 : bw1032 ≠ bw1120 := Nat.ne_of_lt (Nat.lt_of_lt_of_le (Q1039_5.lt) gb1120)
        have f1128 : Z.heap.size ≤ bw1120 := Nat.le_trans (O1118).1 gb1120
        have O1129 : Ext Z.heap h1120 := xk O1118 K1120 (allS f899 (allS f1034 (allS f1036 all0)))
        show Ends p e below s _ _ _ T1120 (mkF m 74 #[iv i0, iv i1, iv i2, iv i3, .val (.long j4), .second, .val (.long j5), .second, iv (3 : Int32), iv xv, iv yv, iv zv, rv a899, .unset, .unset, .unset, .unset, .unset, .unset, .unset, .unset, .unset] [])
        have e1130 : (own_add (own_add (own_add (own_f j4 j5 (j4 ^^^ (-1 : Int64)) (j4 ^^^ j5)) (XT.ushr zv (6 : Int32)).toNatClampNeg ((0 : Int64) ||| ((1 : Int64) <<< (zv.toInt64 &&& 63)))) (XT.ushr xv (6 : Int32)).toNatClampNeg ((0 : Int64) ||| ((1 : Int64) <<< (xv.toInt64 &&& 63)))) (XT.ushr yv (6 : Int32)).toNatClampNeg ((0 : Int64) ||| ((1 : Int64) <<< (yv.toInt64 &&& 63)))) 0 = (own_acc (XT.ushr zv (6 : Int32)) (0 : Int32) (own_acc (XT.ushr yv (6 : Int32)) (0 : Int32) (own_acc (XT.ushr xv (6 : Int32)) (0 : Int32) j4 ((1 : Int64) <<< (xv.toInt64 &&& 63))) ((1 : Int64) <<< (yv.toInt64 &&& 63))) ((1 : Int64) <<< (zv.toInt64 &&& 63))) := by
          rw [own_addacc (own_ix hyv) (kw := (0 : Int32)) (by decide) (by decide), own_addacc (own_ix hxv) (kw := (0 : Int32)) (by decide) (by decide), own_addacc (own_ix hzv) (kw := (0 : Int32)) (by decide) (by decide)]
          show own_acc (XT.ushr yv (6 : Int32)) (0 : Int32) (own_acc (XT.ushr xv (6 : Int32)) (0 : Int32) (own_acc (XT.ushr zv (6 : Int32)) (0 : Int32) (j4) ((0 : Int64) ||| ((1 : Int64) <<< (zv.toInt64 &&& 63)))) ((0 : Int64) ||| ((1 : Int64) <<< (xv.toInt64 &&& 63)))) ((0 : Int64) ||| ((1 : Int64) <<< (yv.toInt64 &&& 63))) = _
          (try simp only [own_z]) <;> by_cases uxv : XT.ushr xv (6 : Int32) = (0 : Int32) <;> by_cases uyv : XT.ushr yv (6 : Int32) = (0 : Int32) <;> by_cases uzv : XT.ushr zv (6 : Int32) = (0 : Int32) <;> simp [own_acc, uxv, uyv, uzv, Int64.or_assoc, Int64.or_comm, own_orl]
        have e1131 : (own_add (own_add (own_add (own_f j4 j5 (j4 ^^^ (-1 : Int64)) (j4 ^^^ j5)) (XT.ushr zv (6 : Int32)).toNatClampNeg ((0 : Int64) ||| ((1 : Int64) <<< (zv.toInt64 &&& 63)))) (XT.ushr xv (6 : Int32)).toNatClampNeg ((0 : Int64) ||| ((1 : Int64) <<< (xv.toInt64 &&& 63)))) (XT.ushr yv (6 : Int32)).toNatClampNeg ((0 : Int64) ||| ((1 : Int64) <<< (yv.toInt64 &&& 63)))) 1 = (own_acc (XT.ushr zv (6 : Int32)) (1 : Int32) (own_acc (XT.ushr yv (6 : Int32)) (1 : Int32) (own_acc (XT.ushr xv (6 : Int32)) (1 : Int32) j5 ((1 : Int64) <<< (xv.toInt64 &&& 63))) ((1 : Int64) <<< (yv.toInt64 &&& 63))) ((1 : Int64) <<< (zv.toInt64 &&& 63))) := by
          rw [own_addacc (own_ix hyv) (kw := (1 : Int32)) (by decide) (by decide), own_addacc (own_ix hxv) (kw := (1 : Int32)) (by decide) (by decide), own_addacc (own_ix hzv) (kw := (1 : Int32)) (by decide) (by decide)]
          show own_acc (XT.ushr yv (6 : Int32)) (1 : Int32) (own_acc (XT.ushr xv (6 : Int32)) (1 : Int32) (own_acc (XT.ushr zv (6 : Int32)) (1 : Int32) (j5) ((0 : Int64) ||| ((1 : Int64) <<< (zv.toInt64 &&& 63)))) ((0 : Int64) ||| ((1 : Int64) <<< (xv.toInt64 &&& 63)))) ((0 : Int64) ||| ((1 : Int64) <<< (yv.toInt64 &&& 63))) = _
          (try simp only [own_z]) <;> by_cases uxv : XT.ushr xv (6 : Int32) = (1 : Int32) <;> by_cases uyv : XT.ushr yv (6 : Int32) = (1 : Int32) <;> by_cases uzv : XT.ushr zv (6 : Int32) = (1 : Int32) <;> simp [own_acc, uxv, uyv, uzv, Int64.or_assoc, Int64.or_comm, own_orl]
        have e1132 : (own_add (own_add (own_add (own_f j4 j5 (j4 ^^^ (-1 : Int64)) (j4 ^^^ j5)) (XT.ushr zv (6 : Int32)).toNatClampNeg ((0 : Int64) ||| ((1 : Int64) <<< (zv.toInt64 &&& 63)))) (XT.ushr xv (6 : Int32)).toNatClampNeg ((0 : Int64) ||| ((1 : Int64) <<< (xv.toInt64 &&& 63)))) (XT.ushr yv (6 : Int32)).toNatClampNeg ((0 : Int64) ||| ((1 : Int64) <<< (yv.toInt64 &&& 63)))) 2 = (own_acc (XT.ushr zv (6 : Int32)) (2 : Int32) (own_acc (XT.ushr yv (6 : Int32)) (2 : Int32) (own_acc (XT.ushr xv (6 : Int32)) (2 : Int32) (j4 ^^^ (-1 : Int64)) ((1 : Int64) <<< (xv.toInt64 &&& 63))) ((1 : Int64) <<< (yv.toInt64 &&& 63))) ((1 : Int64) <<< (zv.toInt64 &&& 63))) := by
          rw [own_addacc (own_ix hyv) (kw := (2 : Int32)) (by decide) (by decide), own_addacc (own_ix hxv) (kw := (2 : Int32)) (by decide) (by decide), own_addacc (own_ix hzv) (kw := (2 : Int32)) (by decide) (by decide)]
          show own_acc (XT.ushr yv (6 : Int32)) (2 : Int32) (own_acc (XT.ushr xv (6 : Int32)) (2 : Int32) (own_acc (XT.ushr zv (6 : Int32)) (2 : Int32) ((j4 ^^^ (-1 : Int64))) ((0 : Int64) ||| ((1 : Int64) <<< (zv.toInt64 &&& 63)))) ((0 : Int64) ||| ((1 : Int64) <<< (xv.toInt64 &&& 63)))) ((0 : Int64) ||| ((1 : Int64) <<< (yv.toInt64 &&& 63))) = _
          (try simp only [own_z]) <;> by_cases uxv : XT.ushr xv (6 : Int32) = (2 : Int32) <;> by_cases uyv : XT.ushr yv (6 : Int32) = (2 : Int32) <;> by_cases uzv : XT.ushr zv (6 : Int32) = (2 : Int32) <;> simp [own_acc, uxv, uyv, uzv, Int64.or_assoc, Int64.or_comm, own_orl]
        have e1133 : (own_add (own_add (own_add (own_f j4 j5 (j4 ^^^ (-1 : Int64)) (j4 ^^^ j5)) (XT.ushr zv (6 : Int32)).toNatClampNeg ((0 : Int64) ||| ((1 : Int64) <<< (zv.toInt64 &&& 63)))) (XT.ushr xv (6 : Int32)).toNatClampNeg ((0 : Int64) ||| ((1 : Int64) <<< (xv.toInt64 &&& 63)))) (XT.ushr yv (6 : Int32)).toNatClampNeg ((0 : Int64) ||| ((1 : Int64) <<< (yv.toInt64 &&& 63)))) 3 = (own_acc (XT.ushr zv (6 : Int32)) (3 : Int32) (own_acc (XT.ushr yv (6 : Int32)) (3 : Int32) (own_acc (XT.ushr xv (6 : Int32)) (3 : Int32) (j4 ^^^ j5) ((1 : Int64) <<< (xv.toInt64 &&& 63))) ((1 : Int64) <<< (yv.toInt64 &&& 63))) ((1 : Int64) <<< (zv.toInt64 &&& 63))) := by
          rw [own_addacc (own_ix hyv) (kw := (3 : Int32)) (by decide) (by decide), own_addacc (own_ix hxv) (kw := (3 : Int32)) (by decide) (by decide), own_addacc (own_ix hzv) (kw := (3 : Int32)) (by decide) (by decide)]
          show own_acc (XT.ushr yv (6 : Int32)) (3 : Int32) (own_acc (XT.ushr xv (6 : Int32)) (3 : Int32) (own_acc (XT.ushr zv (6 : Int32)) (3 : Int32) ((j4 ^^^ j5)) ((0 : Int64) ||| ((1 : Int64) <<< (zv.toInt64 &&& 63)))) ((0 : Int64) ||| ((1 : Int64) <<< (xv.toInt64 &&& 63)))) ((0 : Int64) ||| ((1 : Int64) <<< (yv.toInt64 &&& 63))) = _
          (try simp only [own_z]) <;> by_cases uxv : XT.ushr xv (6 : Int32) = (3 : Int32) <;> by_cases uyv : XT.ushr yv (6 : Int32) = (3 : Int32) <;> by_cases uzv : XT.ushr zv (6 : Int32) = (3 : Int32) <;> simp [own_acc, uxv, uyv, uzv, Int64.or_assoc, Int64.or_comm, own_orl]
        have F1134 := (Exa.keep F1119 K1120)
        exact J3_3_0 _ _ _ bi1120 bw1120 k11120 k21120 (XT.ushr zv (6 : Int32)) (XT.ushr xv (6 : Int32)) (XT.ushr yv (6 : Int32)) ((0 : Int64) ||| ((1 : Int64) <<< (zv.toInt64 &&& 63))) ((0 : Int64) ||| ((1 : Int64) <<< (xv.toInt64 &&& 63))) ((0 : Int64) ||| ((1 : Int64) <<< (yv.toInt64 &&& 63))) (X1120.more (by decide) (by decide)) e1120 O1129 N1120a F1134 Q1120_0 Q1120_1 Q1120_2 Q1120_3 Q1120_4 Q1120_5 f1124 f1128 n1121 n1125 nn1120 (own_ix hzv) (own_ix hxv) (own_ix hyv) e1130 e1131 e1132 e1133
      · have N1120a := Fr.app N1039a N1120
        have O1135 : Ext Z.heap h1120 := xk O1118 K1120 (allS f899 (allS f1034 (allS f1036 all0)))
        show Ends p e below s _ _ _ T1120 (mkF m 74 #[iv i0, iv i1, iv i2, iv i3, .val (.long j4), .second, .val (.long j5), .second, iv (3 : Int32), iv xv, iv yv, iv zv, rv a899, .unset, .unset, .unset, .unset, .unset, .unset, .unset, .unset, .unset] [])
        have e1136 : (own_add (own_add (own_f j4 j5 (j4 ^^^ (-1 : Int64)) (j4 ^^^ j5)) (XT.ushr xv (6 : Int32)).toNatClampNeg (((0 : Int64) ||| ((1 : Int64) <<< (xv.toInt64 &&& 63))) ||| ((1 : Int64) <<< (zv.toInt64 &&& 63)))) (XT.ushr yv (6 : Int32)).toNatClampNeg ((0 : Int64) ||| ((1 : Int64) <<< (yv.toInt64 &&& 63)))) 0 = (own_acc (XT.ushr zv (6 : Int32)) (0 : Int32) (own_acc (XT.ushr yv (6 : Int32)) (0 : Int32) (own_acc (XT.ushr xv (6 : Int32)) (0 : Int32) j4 ((1 : Int64) <<< (xv.toInt64 &&& 63))) ((1 : Int64) <<< (yv.toInt64 &&& 63))) ((1 : Int64) <<< (zv.toInt64 &&& 63))) := by
          rw [own_addacc (own_ix hyv) (kw := (0 : Int32)) (by decide) (by decide), own_addacc (own_ix hxv) (kw := (0 : Int32)) (by decide) (by decide)]
          show own_acc (XT.ushr yv (6 : Int32)) (0 : Int32) (own_acc (XT.ushr xv (6 : Int32)) (0 : Int32) (j4) (((0 : Int64) ||| ((1 : Int64) <<< (xv.toInt64 &&& 63))) ||| ((1 : Int64) <<< (zv.toInt64 &&& 63)))) ((0 : Int64) ||| ((1 : Int64) <<< (yv.toInt64 &&& 63))) = _
          try rw [← cq1120]
          (try simp only [own_z]) <;> by_cases uxv : XT.ushr xv (6 : Int32) = (0 : Int32) <;> by_cases uyv : XT.ushr yv (6 : Int32) = (0 : Int32) <;> simp [own_acc, uxv, uyv, Int64.or_assoc, Int64.or_comm, own_orl]
        have e1137 : (own_add (own_add (own_f j4 j5 (j4 ^^^ (-1 : Int64)) (j4 ^^^ j5)) (XT.ushr xv (6 : Int32)).toNatClampNeg (((0 : Int64) ||| ((1 : Int64) <<< (xv.toInt64 &&& 63))) ||| ((1 : Int64) <<< (zv.toInt64 &&& 63)))) (XT.ushr yv (6 : Int32)).toNatClampNeg ((0 : Int64) ||| ((1 : Int64) <<< (yv.toInt64 &&& 63)))) 1 = (own_acc (XT.ushr zv (6 : Int32)) (1 : Int32) (own_acc (XT.ushr yv (6 : Int32)) (1 : Int32) (own_acc (XT.ushr xv (6 : Int32)) (1 : Int32) j5 ((1 : Int64) <<< (xv.toInt64 &&& 63))) ((1 : Int64) <<< (yv.toInt64 &&& 63))) ((1 : Int64) <<< (zv.toInt64 &&& 63))) := by
          rw [own_addacc (own_ix hyv) (kw := (1 : Int32)) (by decide) (by decide), own_addacc (own_ix hxv) (kw := (1 : Int32)) (by decide) (by decide)]
          show own_acc (XT.ushr yv (6 : Int32)) (1 : Int32) (own_acc (XT.ushr xv (6 : Int32)) (1 : Int32) (j5) (((0 : Int64) ||| ((1 : Int64) <<< (xv.toInt64 &&& 63))) ||| ((1 : Int64) <<< (zv.toInt64 &&& 63)))) ((0 : Int64) ||| ((1 : Int64) <<< (yv.toInt64 &&& 63))) = _
          try rw [← cq1120]
          (try simp only [own_z]) <;> by_cases uxv : XT.ushr xv (6 : Int32) = (1 : Int32) <;> by_cases uyv : XT.ushr yv (6 : Int32) = (1 : Int32) <;> simp [own_acc, uxv, uyv, Int64.or_assoc, Int64.or_comm, own_orl]
        have e1138 : (own_add (own_add (own_f j4 j5 (j4 ^^^ (-1 : Int64)) (j4 ^^^ j5)) (XT.ushr xv (6 : Int32)).toNatClampNeg (((0 : Int64) ||| ((1 : Int64) <<< (xv.toInt64 &&& 63))) ||| ((1 : Int64) <<< (zv.toInt64 &&& 63)))) (XT.ushr yv (6 : Int32)).toNatClampNeg ((0 : Int64) ||| ((1 : Int64) <<< (yv.toInt64 &&& 63)))) 2 = (own_acc (XT.ushr zv (6 : Int32)) (2 : Int32) (own_acc (XT.ushr yv (6 : Int32)) (2 : Int32) (own_acc (XT.ushr xv (6 : Int32)) (2 : Int32) (j4 ^^^ (-1 : Int64)) ((1 : Int64) <<< (xv.toInt64 &&& 63))) ((1 : Int64) <<< (yv.toInt64 &&& 63))) ((1 : Int64) <<< (zv.toInt64 &&& 63))) := by
          rw [own_addacc (own_ix hyv) (kw := (2 : Int32)) (by decide) (by decide), own_addacc (own_ix hxv) (kw := (2 : Int32)) (by decide) (by decide)]
          show own_acc (XT.ushr yv (6 : Int32)) (2 : Int32) (own_acc (XT.ushr xv (6 : Int32)) (2 : Int32) ((j4 ^^^ (-1 : Int64))) (((0 : Int64) ||| ((1 : Int64) <<< (xv.toInt64 &&& 63))) ||| ((1 : Int64) <<< (zv.toInt64 &&& 63)))) ((0 : Int64) ||| ((1 : Int64) <<< (yv.toInt64 &&& 63))) = _
          try rw [← cq1120]
          (try simp only [own_z]) <;> by_cases uxv : XT.ushr xv (6 : Int32) = (2 : Int32) <;> by_cases uyv : XT.ushr yv (6 : Int32) = (2 : Int32) <;> simp [own_acc, uxv, uyv, Int64.or_assoc, Int64.or_comm, own_orl]
        have e1139 : (own_add (own_add (own_f j4 j5 (j4 ^^^ (-1 : Int64)) (j4 ^^^ j5)) (XT.ushr xv (6 : Int32)).toNatClampNeg (((0 : Int64) ||| ((1 : Int64) <<< (xv.toInt64 &&& 63))) ||| ((1 : Int64) <<< (zv.toInt64 &&& 63)))) (XT.ushr yv (6 : Int32)).toNatClampNeg ((0 : Int64) ||| ((1 : Int64) <<< (yv.toInt64 &&& 63)))) 3 = (own_acc (XT.ushr zv (6 : Int32)) (3 : Int32) (own_acc (XT.ushr yv (6 : Int32)) (3 : Int32) (own_acc (XT.ushr xv (6 : Int32)) (3 : Int32) (j4 ^^^ j5) ((1 : Int64) <<< (xv.toInt64 &&& 63))) ((1 : Int64) <<< (yv.toInt64 &&& 63))) ((1 : Int64) <<< (zv.toInt64 &&& 63))) := by
          rw [own_addacc (own_ix hyv) (kw := (3 : Int32)) (by decide) (by decide), own_addacc (own_ix hxv) (kw := (3 : Int32)) (by decide) (by decide)]
          show own_acc (XT.ushr yv (6 : Int32)) (3 : Int32) (own_acc (XT.ushr xv (6 : Int32)) (3 : Int32) ((j4 ^^^ j5)) (((0 : Int64) ||| ((1 : Int64) <<< (xv.toInt64 &&& 63))) ||| ((1 : Int64) <<< (zv.toInt64 &&& 63)))) ((0 : Int64) ||| ((1 : Int64) <<< (yv.toInt64 &&& 63))) = _
          try rw [← cq1120]
          (try simp only [own_z]) <;> by_cases uxv : XT.ushr xv (6 : Int32) = (3 : Int32) <;> by_cases uyv : XT.ushr yv (6 : Int32) = (3 : Int32) <;> simp [own_acc, uxv, uyv, Int64.or_assoc, Int64.or_comm, own_orl]
        have F1140 := (Exa.keep F1119 K1120)
        exact J3_2_0 _ _ _ bi1032 bw1032 k11032 k21032 (XT.ushr xv (6 : Int32)) (XT.ushr yv (6 : Int32)) (((0 : Int64) ||| ((1 : Int64) <<< (xv.toInt64 &&& 63))) ||| ((1 : Int64) <<< (zv.toInt64 &&& 63))) ((0 : Int64) ||| ((1 : Int64) <<< (yv.toInt64 &&& 63))) (X1120.more (by decide) (by decide)) e1120 O1135 N1120a F1140 Q1120_0 Q1120_1 Q1120_2 Q1120_3 Q1120_4 Q1120_5 f1034 f1036 n1033 n1035 nn1032 (own_ix hxv) (own_ix hyv) e1136 e1137 e1138 e1139
      · have N1120a := Fr.app N1039a N1120
        have n1141 : a899 ≠ bi1120 := Nat.ne_of_lt (Nat.lt_of_lt_of_le (F1119.lt) ga1120)
        have n1142 : bi1032 ≠ bi1120 := Nat.ne_of_lt (Nat.lt_of_lt_of_le (Q1039_4.lt) ga1120)
        have n1143 : bw1032 ≠ bi1120 := Nat.ne_of_lt (Nat.lt_of_lt_of_le (Q1039_5.lt) ga1120)
        have f1144 : Z.heap.size ≤ bi1120 := Nat.le_trans (O1118).1 ga1120
        have n1145 : a899 ≠ bw1120 := Nat.ne_of_lt (Nat.lt_of_lt_of_le (F1119.lt) gb1120)
        have n1146 : bi1032 ≠ bw1120 := Nat.ne_of_lt (Nat.lt_of_lt_of_le (Q1039_4.lt) gb1120)
        have n1147 : bw1032 ≠ bw1120 := Nat.ne_of_lt (Nat.lt_of_lt_of_le (Q1039_5.lt) gb1120)
        have f1148 : Z.heap.size ≤ bw1120 := Nat.le_trans (O1118).1 gb1120
        have O1149 : Ext Z.heap h1120 := xk O1118 K1120 (allS f899 (allS f1034 (allS f1036 all0)))
        show Ends p e below s _ _ _ T1120 (mkF m 74 #[iv i0, iv i1, iv i2, iv i3, .val (.long j4), .second, .val (.long j5), .second, iv (3 : Int32), iv xv, iv yv, iv zv, rv a899, .unset, .unset, .unset, .unset, .unset, .unset, .unset, .unset, .unset] [])
        have e1150 : (own_add (own_add (own_add (own_f j4 j5 (j4 ^^^ (-1 : Int64)) (j4 ^^^ j5)) (XT.ushr xv (6 : Int32)).toNatClampNeg ((0 : Int64) ||| ((1 : Int64) <<< (xv.toInt64 &&& 63)))) (XT.ushr zv (6 : Int32)).toNatClampNeg ((0 : Int64) ||| ((1 : Int64) <<< (zv.toInt64 &&& 63)))) (XT.ushr yv (6 : Int32)).toNatClampNeg ((0 : Int64) ||| ((1 : Int64) <<< (yv.toInt64 &&& 63)))) 0 = (own_acc (XT.ushr zv (6 : Int32)) (0 : Int32) (own_acc (XT.ushr yv (6 : Int32)) (0 : Int32) (own_acc (XT.ushr xv (6 : Int32)) (0 : Int32) j4 ((1 : Int64) <<< (xv.toInt64 &&& 63))) ((1 : Int64) <<< (yv.toInt64 &&& 63))) ((1 : Int64) <<< (zv.toInt64 &&& 63))) := by
          rw [own_addacc (own_ix hyv) (kw := (0 : Int32)) (by decide) (by decide), own_addacc (own_ix hzv) (kw := (0 : Int32)) (by decide) (by decide), own_addacc (own_ix hxv) (kw := (0 : Int32)) (by decide) (by decide)]
          show own_acc (XT.ushr yv (6 : Int32)) (0 : Int32) (own_acc (XT.ushr zv (6 : Int32)) (0 : Int32) (own_acc (XT.ushr xv (6 : Int32)) (0 : Int32) (j4) ((0 : Int64) ||| ((1 : Int64) <<< (xv.toInt64 &&& 63)))) ((0 : Int64) ||| ((1 : Int64) <<< (zv.toInt64 &&& 63)))) ((0 : Int64) ||| ((1 : Int64) <<< (yv.toInt64 &&& 63))) = _
          (try simp only [own_z]) <;> by_cases uxv : XT.ushr xv (6 : Int32) = (0 : Int32) <;> by_cases uyv : XT.ushr yv (6 : Int32) = (0 : Int32) <;> by_cases uzv : XT.ushr zv (6 : Int32) = (0 : Int32) <;> simp [own_acc, uxv, uyv, uzv, Int64.or_assoc, Int64.or_comm, own_orl]
        have e1151 : (own_add (own_add (own_add (own_f j4 j5 (j4 ^^^ (-1 : Int64)) (j4 ^^^ j5)) (XT.ushr xv (6 : Int32)).toNatClampNeg ((0 : Int64) ||| ((1 : Int64) <<< (xv.toInt64 &&& 63)))) (XT.ushr zv (6 : Int32)).toNatClampNeg ((0 : Int64) ||| ((1 : Int64) <<< (zv.toInt64 &&& 63)))) (XT.ushr yv (6 : Int32)).toNatClampNeg ((0 : Int64) ||| ((1 : Int64) <<< (yv.toInt64 &&& 63)))) 1 = (own_acc (XT.ushr zv (6 : Int32)) (1 : Int32) (own_acc (XT.ushr yv (6 : Int32)) (1 : Int32) (own_acc (XT.ushr xv (6 : Int32)) (1 : Int32) j5 ((1 : Int64) <<< (xv.toInt64 &&& 63))) ((1 : Int64) <<< (yv.toInt64 &&& 63))) ((1 : Int64) <<< (zv.toInt64 &&& 63))) := by
          rw [own_addacc (own_ix hyv) (kw := (1 : Int32)) (by decide) (by decide), own_addacc (own_ix hzv) (kw := (1 : Int32)) (by decide) (by decide), own_addacc (own_ix hxv) (kw := (1 : Int32)) (by decide) (by decide)]
          show own_acc (XT.ushr yv (6 : Int32)) (1 : Int32) (own_acc (XT.ushr zv (6 : Int32)) (1 : Int32) (own_acc (XT.ushr xv (6 : Int32)) (1 : Int32) (j5) ((0 : Int64) ||| ((1 : Int64) <<< (xv.toInt64 &&& 63)))) ((0 : Int64) ||| ((1 : Int64) <<< (zv.toInt64 &&& 63)))) ((0 : Int64) ||| ((1 : Int64) <<< (yv.toInt64 &&& 63))) = _
          (try simp only [own_z]) <;> by_cases uxv : XT.ushr xv (6 : Int32) = (1 : Int32) <;> by_cases uyv : XT.ushr yv (6 : Int32) = (1 : Int32) <;> by_cases uzv : XT.ushr zv (6 : Int32) = (1 : Int32) <;> simp [own_acc, uxv, uyv, uzv, Int64.or_assoc, Int64.or_comm, own_orl]
        have e1152 : (own_add (own_add (own_add (own_f j4 j5 (j4 ^^^ (-1 : Int64)) (j4 ^^^ j5)) (XT.ushr xv (6 : Int32)).toNatClampNeg ((0 : Int64) ||| ((1 : Int64) <<< (xv.toInt64 &&& 63)))) (XT.ushr zv (6 : Int32)).toNatClampNeg ((0 : Int64) ||| ((1 : Int64) <<< (zv.toInt64 &&& 63)))) (XT.ushr yv (6 : Int32)).toNatClampNeg ((0 : Int64) ||| ((1 : Int64) <<< (yv.toInt64 &&& 63)))) 2 = (own_acc (XT.ushr zv (6 : Int32)) (2 : Int32) (own_acc (XT.ushr yv (6 : Int32)) (2 : Int32) (own_acc (XT.ushr xv (6 : Int32)) (2 : Int32) (j4 ^^^ (-1 : Int64)) ((1 : Int64) <<< (xv.toInt64 &&& 63))) ((1 : Int64) <<< (yv.toInt64 &&& 63))) ((1 : Int64) <<< (zv.toInt64 &&& 63))) := by
          rw [own_addacc (own_ix hyv) (kw := (2 : Int32)) (by decide) (by decide), own_addacc (own_ix hzv) (kw := (2 : Int32)) (by decide) (by decide), own_addacc (own_ix hxv) (kw := (2 : Int32)) (by decide) (by decide)]
          show own_acc (XT.ushr yv (6 : Int32)) (2 : Int32) (own_acc (XT.ushr zv (6 : Int32)) (2 : Int32) (own_acc (XT.ushr xv (6 : Int32)) (2 : Int32) ((j4 ^^^ (-1 : Int64))) ((0 : Int64) ||| ((1 : Int64) <<< (xv.toInt64 &&& 63)))) ((0 : Int64) ||| ((1 : Int64) <<< (zv.toInt64 &&& 63)))) ((0 : Int64) ||| ((1 : Int64) <<< (yv.toInt64 &&& 63))) = _
          (try simp only [own_z]) <;> by_cases uxv : XT.ushr xv (6 : Int32) = (2 : Int32) <;> by_cases uyv : XT.ushr yv (6 : Int32) = (2 : Int32) <;> by_cases uzv : XT.ushr zv (6 : Int32) = (2 : Int32) <;> simp [own_acc, uxv, uyv, uzv, Int64.or_assoc, Int64.or_comm, own_orl]
        have e1153 : (own_add (own_add (own_add (own_f j4 j5 (j4 ^^^ (-1 : Int64)) (j4 ^^^ j5)) (XT.ushr xv (6 : Int32)).toNatClampNeg ((0 : Int64) ||| ((1 : Int64) <<< (xv.toInt64 &&& 63)))) (XT.ushr zv (6 : Int32)).toNatClampNeg ((0 : Int64) ||| ((1 : Int64) <<< (zv.toInt64 &&& 63)))) (XT.ushr yv (6 : Int32)).toNatClampNeg ((0 : Int64) ||| ((1 : Int64) <<< (yv.toInt64 &&& 63)))) 3 = (own_acc (XT.ushr zv (6 : Int32)) (3 : Int32) (own_acc (XT.ushr yv (6 : Int32)) (3 : Int32) (own_acc (XT.ushr xv (6 : Int32)) (3 : Int32) (j4 ^^^ j5) ((1 : Int64) <<< (xv.toInt64 &&& 63))) ((1 : Int64) <<< (yv.toInt64 &&& 63))) ((1 : Int64) <<< (zv.toInt64 &&& 63))) := by
          rw [own_addacc (own_ix hyv) (kw := (3 : Int32)) (by decide) (by decide), own_addacc (own_ix hzv) (kw := (3 : Int32)) (by decide) (by decide), own_addacc (own_ix hxv) (kw := (3 : Int32)) (by decide) (by decide)]
          show own_acc (XT.ushr yv (6 : Int32)) (3 : Int32) (own_acc (XT.ushr zv (6 : Int32)) (3 : Int32) (own_acc (XT.ushr xv (6 : Int32)) (3 : Int32) ((j4 ^^^ j5)) ((0 : Int64) ||| ((1 : Int64) <<< (xv.toInt64 &&& 63)))) ((0 : Int64) ||| ((1 : Int64) <<< (zv.toInt64 &&& 63)))) ((0 : Int64) ||| ((1 : Int64) <<< (yv.toInt64 &&& 63))) = _
          (try simp only [own_z]) <;> by_cases uxv : XT.ushr xv (6 : Int32) = (3 : Int32) <;> by_cases uyv : XT.ushr yv (6 : Int32) = (3 : Int32) <;> by_cases uzv : XT.ushr zv (6 : Int32) = (3 : Int32) <;> simp [own_acc, uxv, uyv, uzv, Int64.or_assoc, Int64.or_comm, own_orl]
        have F1154 := (Exa.keep F1119 K1120)
        exact J3_3_0 _ _ _ bi1120 bw1120 k11120 k21120 (XT.ushr xv (6 : Int32)) (XT.ushr zv (6 : Int32)) (XT.ushr yv (6 : Int32)) ((0 : Int64) ||| ((1 : Int64) <<< (xv.toInt64 &&& 63))) ((0 : Int64) ||| ((1 : Int64) <<< (zv.toInt64 &&& 63))) ((0 : Int64) ||| ((1 : Int64) <<< (yv.toInt64 &&& 63))) (X1120.more (by decide) (by decide)) e1120 O1149 N1120a F1154 Q1120_0 Q1120_1 Q1120_2 Q1120_3 Q1120_4 Q1120_5 f1144 f1148 n1141 n1145 nn1120 (own_ix hxv) (own_ix hzv) (own_ix hyv) e1150 e1151 e1152 e1153
      · have N1120a := Fr.app N1039a N1120
        have O1155 : Ext Z.heap h1120 := xk O1118 K1120 (allS f899 (allS f1034 (allS f1036 all0)))
        show Ends p e below s _ _ _ T1120 (mkF m 74 #[iv i0, iv i1, iv i2, iv i3, .val (.long j4), .second, .val (.long j5), .second, iv (3 : Int32), iv xv, iv yv, iv zv, rv a899, .unset, .unset, .unset, .unset, .unset, .unset, .unset, .unset, .unset] [])
        have e1156 : (own_add (own_add (own_f j4 j5 (j4 ^^^ (-1 : Int64)) (j4 ^^^ j5)) (XT.ushr xv (6 : Int32)).toNatClampNeg ((0 : Int64) ||| ((1 : Int64) <<< (xv.toInt64 &&& 63)))) (XT.ushr yv (6 : Int32)).toNatClampNeg (((0 : Int64) ||| ((1 : Int64) <<< (yv.toInt64 &&& 63))) ||| ((1 : Int64) <<< (zv.toInt64 &&& 63)))) 0 = (own_acc (XT.ushr zv (6 : Int32)) (0 : Int32) (own_acc (XT.ushr yv (6 : Int32)) (0 : Int32) (own_acc (XT.ushr xv (6 : Int32)) (0 : Int32) j4 ((1 : Int64) <<< (xv.toInt64 &&& 63))) ((1 : Int64) <<< (yv.toInt64 &&& 63))) ((1 : Int64) <<< (zv.toInt64 &&& 63))) := by
          rw [own_addacc (own_ix hyv) (kw := (0 : Int32)) (by decide) (by decide), own_addacc (own_ix hxv) (kw := (0 : Int32)) (by decide) (by decide)]
          show own_acc (XT.ushr yv (6 : Int32)) (0 : Int32) (own_acc (XT.ushr xv (6 : Int32)) (0 : Int32) (j4) ((0 : Int64) ||| ((1 : Int64) <<< (xv.toInt64 &&& 63)))) (((0 : Int64) ||| ((1 : Int64) <<< (yv.toInt64 &&& 63))) ||| ((1 : Int64) <<< (zv.toInt64 &&& 63))) = _
          try rw [← cq1120]
          (try simp only [own_z]) <;> by_cases uxv : XT.ushr xv (6 : Int32) = (0 : Int32) <;> by_cases uyv : XT.ushr yv (6 : Int32) = (0 : Int32) <;> simp [own_acc, uxv, uyv, Int64.or_assoc, Int64.or_comm, own_orl]
        have e1157 : (own_add (own_add (own_f j4 j5 (j4 ^^^ (-1 : Int64)) (j4 ^^^ j5)) (XT.ushr xv (6 : Int32)).toNatClampNeg ((0 : Int64) ||| ((1 : Int64) <<< (xv.toInt64 &&& 63)))) (XT.ushr yv (6 : Int32)).toNatClampNeg (((0 : Int64) ||| ((1 : Int64) <<< (yv.toInt64 &&& 63))) ||| ((1 : Int64) <<< (zv.toInt64 &&& 63)))) 1 = (own_acc (XT.ushr zv (6 : Int32)) (1 : Int32) (own_acc (XT.ushr yv (6 : Int32)) (1 : Int32) (own_acc (XT.ushr xv (6 : Int32)) (1 : Int32) j5 ((1 : Int64) <<< (xv.toInt64 &&& 63))) ((1 : Int64) <<< (yv.toInt64 &&& 63))) ((1 : Int64) <<< (zv.toInt64 &&& 63))) := by
          rw [own_addacc (own_ix hyv) (kw := (1 : Int32)) (by decide) (by decide), own_addacc (own_ix hxv) (kw := (1 : Int32)) (by decide) (by decide)]
          show own_acc (XT.ushr yv (6 : Int32)) (1 : Int32) (own_acc (XT.ushr xv (6 : Int32)) (1 : Int32) (j5) ((0 : Int64) ||| ((1 : Int64) <<< (xv.toInt64 &&& 63)))) (((0 : Int64) ||| ((1 : Int64) <<< (yv.toInt64 &&& 63))) ||| ((1 : Int64) <<< (zv.toInt64 &&& 63))) = _
          try rw [← cq1120]
          (try simp only [own_z]) <;> by_cases uxv : XT.ushr xv (6 : Int32) = (1 : Int32) <;> by_cases uyv : XT.ushr yv (6 : Int32) = (1 : Int32) <;> simp [own_acc, uxv, uyv, Int64.or_assoc, Int64.or_comm, own_orl]
        have e1158 : (own_add (own_add (own_f j4 j5 (j4 ^^^ (-1 : Int64)) (j4 ^^^ j5)) (XT.ushr xv (6 : Int32)).toNatClampNeg ((0 : Int64) ||| ((1 : Int64) <<< (xv.toInt64 &&& 63)))) (XT.ushr yv (6 : Int32)).toNatClampNeg (((0 : Int64) ||| ((1 : Int64) <<< (yv.toInt64 &&& 63))) ||| ((1 : Int64) <<< (zv.toInt64 &&& 63)))) 2 = (own_acc (XT.ushr zv (6 : Int32)) (2 : Int32) (own_acc (XT.ushr yv (6 : Int32)) (2 : Int32) (own_acc (XT.ushr xv (6 : Int32)) (2 : Int32) (j4 ^^^ (-1 : Int64)) ((1 : Int64) <<< (xv.toInt64 &&& 63))) ((1 : Int64) <<< (yv.toInt64 &&& 63))) ((1 : Int64) <<< (zv.toInt64 &&& 63))) := by
          rw [own_addacc (own_ix hyv) (kw := (2 : Int32)) (by decide) (by decide), own_addacc (own_ix hxv) (kw := (2 : Int32)) (by decide) (by decide)]
          show own_acc (XT.ushr yv (6 : Int32)) (2 : Int32) (own_acc (XT.ushr xv (6 : Int32)) (2 : Int32) ((j4 ^^^ (-1 : Int64))) ((0 : Int64) ||| ((1 : Int64) <<< (xv.toInt64 &&& 63)))) (((0 : Int64) ||| ((1 : Int64) <<< (yv.toInt64 &&& 63))) ||| ((1 : Int64) <<< (zv.toInt64 &&& 63))) = _
          try rw [← cq1120]
          (try simp only [own_z]) <;> by_cases uxv : XT.ushr xv (6 : Int32) = (2 : Int32) <;> by_cases uyv : XT.ushr yv (6 : Int32) = (2 : Int32) <;> simp [own_acc, uxv, uyv, Int64.or_assoc, Int64.or_comm, own_orl]
        have e1159 : (own_add (own_add (own_f j4 j5 (j4 ^^^ (-1 : Int64)) (j4 ^^^ j5)) (XT.ushr xv (6 : Int32)).toNatClampNeg ((0 : Int64) ||| ((1 : Int64) <<< (xv.toInt64 &&& 63)))) (XT.ushr yv (6 : Int32)).toNatClampNeg (((0 : Int64) ||| ((1 : Int64) <<< (yv.toInt64 &&& 63))) ||| ((1 : Int64) <<< (zv.toInt64 &&& 63)))) 3 = (own_acc (XT.ushr zv (6 : Int32)) (3 : Int32) (own_acc (XT.ushr yv (6 : Int32)) (3 : Int32) (own_acc (XT.ushr xv (6 : Int32)) (3 : Int32) (j4 ^^^ j5) ((1 : Int64) <<< (xv.toInt64 &&& 63))) ((1 : Int64) <<< (yv.toInt64 &&& 63))) ((1 : Int64) <<< (zv.toInt64 &&& 63))) := by
          rw [own_addacc (own_ix hyv) (kw := (3 : Int32)) (by decide) (by decide), own_addacc (own_ix hxv) (kw := (3 : Int32)) (by decide) (by decide)]
          show own_acc (XT.ushr yv (6 : Int32)) (3 : Int32) (own_acc (XT.ushr xv (6 : Int32)) (3 : Int32) ((j4 ^^^ j5)) ((0 : Int64) ||| ((1 : Int64) <<< (xv.toInt64 &&& 63)))) (((0 : Int64) ||| ((1 : Int64) <<< (yv.toInt64 &&& 63))) ||| ((1 : Int64) <<< (zv.toInt64 &&& 63))) = _
          try rw [← cq1120]
          (try simp only [own_z]) <;> by_cases uxv : XT.ushr xv (6 : Int32) = (3 : Int32) <;> by_cases uyv : XT.ushr yv (6 : Int32) = (3 : Int32) <;> simp [own_acc, uxv, uyv, Int64.or_assoc, Int64.or_comm, own_orl]
        have F1160 := (Exa.keep F1119 K1120)
        exact J3_2_1 _ _ _ bi1032 bw1032 k11032 k21032 (XT.ushr xv (6 : Int32)) (XT.ushr yv (6 : Int32)) ((0 : Int64) ||| ((1 : Int64) <<< (xv.toInt64 &&& 63))) (((0 : Int64) ||| ((1 : Int64) <<< (yv.toInt64 &&& 63))) ||| ((1 : Int64) <<< (zv.toInt64 &&& 63))) (X1120.more (by decide) (by decide)) e1120 O1155 N1120a F1160 Q1120_0 Q1120_1 Q1120_2 Q1120_3 Q1120_4 Q1120_5 f1034 f1036 n1033 n1035 nn1032 (own_ix hxv) (own_ix hyv) e1156 e1157 e1158 e1159
      · have N1120a := Fr.app N1039a N1120
        have n1161 : a899 ≠ bi1120 := Nat.ne_of_lt (Nat.lt_of_lt_of_le (F1119.lt) ga1120)
        have n1162 : bi1032 ≠ bi1120 := Nat.ne_of_lt (Nat.lt_of_lt_of_le (Q1039_4.lt) ga1120)
        have n1163 : bw1032 ≠ bi1120 := Nat.ne_of_lt (Nat.lt_of_lt_of_le (Q1039_5.lt) ga1120)
        have f1164 : Z.heap.size ≤ bi1120 := Nat.le_trans (O1118).1 ga1120
        have n1165 : a899 ≠ bw1120 := Nat.ne_of_lt (Nat.lt_of_lt_of_le (F1119.lt) gb1120)
        have n1166 : bi1032 ≠ bw1120 := Nat.ne_of_lt (Nat.lt_of_lt_of_le (Q1039_4.lt) gb1120)
        have n1167 : bw1032 ≠ bw1120 := Nat.ne_of_lt (Nat.lt_of_lt_of_le (Q1039_5.lt) gb1120)
        have f1168 : Z.heap.size ≤ bw1120 := Nat.le_trans (O1118).1 gb1120
        have O1169 : Ext Z.heap h1120 := xk O1118 K1120 (allS f899 (allS f1034 (allS f1036 all0)))
        show Ends p e below s _ _ _ T1120 (mkF m 74 #[iv i0, iv i1, iv i2, iv i3, .val (.long j4), .second, .val (.long j5), .second, iv (3 : Int32), iv xv, iv yv, iv zv, rv a899, .unset, .unset, .unset, .unset, .unset, .unset, .unset, .unset, .unset] [])
        have e1170 : (own_add (own_add (own_add (own_f j4 j5 (j4 ^^^ (-1 : Int64)) (j4 ^^^ j5)) (XT.ushr xv (6 : Int32)).toNatClampNeg ((0 : Int64) ||| ((1 : Int64) <<< (xv.toInt64 &&& 63)))) (XT.ushr yv (6 : Int32)).toNatClampNeg ((0 : Int64) ||| ((1 : Int64) <<< (yv.toInt64 &&& 63)))) (XT.ushr zv (6 : Int32)).toNatClampNeg ((0 : Int64) ||| ((1 : Int64) <<< (zv.toInt64 &&& 63)))) 0 = (own_acc (XT.ushr zv (6 : Int32)) (0 : Int32) (own_acc (XT.ushr yv (6 : Int32)) (0 : Int32) (own_acc (XT.ushr xv (6 : Int32)) (0 : Int32) j4 ((1 : Int64) <<< (xv.toInt64 &&& 63))) ((1 : Int64) <<< (yv.toInt64 &&& 63))) ((1 : Int64) <<< (zv.toInt64 &&& 63))) := by
          rw [own_addacc (own_ix hzv) (kw := (0 : Int32)) (by decide) (by decide), own_addacc (own_ix hyv) (kw := (0 : Int32)) (by decide) (by decide), own_addacc (own_ix hxv) (kw := (0 : Int32)) (by decide) (by decide)]
          show own_acc (XT.ushr zv (6 : Int32)) (0 : Int32) (own_acc (XT.ushr yv (6 : Int32)) (0 : Int32) (own_acc (XT.ushr xv (6 : Int32)) (0 : Int32) (j4) ((0 : Int64) ||| ((1 : Int64) <<< (xv.toInt64 &&& 63)))) ((0 : Int64) ||| ((1 : Int64) <<< (yv.toInt64 &&& 63)))) ((0 : Int64) ||| ((1 : Int64) <<< (zv.toInt64 &&& 63))) = _
          (try simp only [own_z]) <;> by_cases uxv : XT.ushr xv (6 : Int32) = (0 : Int32) <;> by_cases uyv : XT.ushr yv (6 : Int32) = (0 : Int32) <;> by_cases uzv : XT.ushr zv (6 : Int32) = (0 : Int32) <;> simp [own_acc, uxv, uyv, uzv, Int64.or_assoc, Int64.or_comm, own_orl]
        have e1171 : (own_add (own_add (own_add (own_f j4 j5 (j4 ^^^ (-1 : Int64)) (j4 ^^^ j5)) (XT.ushr xv (6 : Int32)).toNatClampNeg ((0 : Int64) ||| ((1 : Int64) <<< (xv.toInt64 &&& 63)))) (XT.ushr yv (6 : Int32)).toNatClampNeg ((0 : Int64) ||| ((1 : Int64) <<< (yv.toInt64 &&& 63)))) (XT.ushr zv (6 : Int32)).toNatClampNeg ((0 : Int64) ||| ((1 : Int64) <<< (zv.toInt64 &&& 63)))) 1 = (own_acc (XT.ushr zv (6 : Int32)) (1 : Int32) (own_acc (XT.ushr yv (6 : Int32)) (1 : Int32) (own_acc (XT.ushr xv (6 : Int32)) (1 : Int32) j5 ((1 : Int64) <<< (xv.toInt64 &&& 63))) ((1 : Int64) <<< (yv.toInt64 &&& 63))) ((1 : Int64) <<< (zv.toInt64 &&& 63))) := by
          rw [own_addacc (own_ix hzv) (kw := (1 : Int32)) (by decide) (by decide), own_addacc (own_ix hyv) (kw := (1 : Int32)) (by decide) (by decide), own_addacc (own_ix hxv) (kw := (1 : Int32)) (by decide) (by decide)]
          show own_acc (XT.ushr zv (6 : Int32)) (1 : Int32) (own_acc (XT.ushr yv (6 : Int32)) (1 : Int32) (own_acc (XT.ushr xv (6 : Int32)) (1 : Int32) (j5) ((0 : Int64) ||| ((1 : Int64) <<< (xv.toInt64 &&& 63)))) ((0 : Int64) ||| ((1 : Int64) <<< (yv.toInt64 &&& 63)))) ((0 : Int64) ||| ((1 : Int64) <<< (zv.toInt64 &&& 63))) = _
          (try simp only [own_z]) <;> by_cases uxv : XT.ushr xv (6 : Int32) = (1 : Int32) <;> by_cases uyv : XT.ushr yv (6 : Int32) = (1 : Int32) <;> by_cases uzv : XT.ushr zv (6 : Int32) = (1 : Int32) <;> simp [own_acc, uxv, uyv, uzv, Int64.or_assoc, Int64.or_comm, own_orl]
        have e1172 : (own_add (own_add (own_add (own_f j4 j5 (j4 ^^^ (-1 : Int64)) (j4 ^^^ j5)) (XT.ushr xv (6 : Int32)).toNatClampNeg ((0 : Int64) ||| ((1 : Int64) <<< (xv.toInt64 &&& 63)))) (XT.ushr yv (6 : Int32)).toNatClampNeg ((0 : Int64) ||| ((1 : Int64) <<< (yv.toInt64 &&& 63)))) (XT.ushr zv (6 : Int32)).toNatClampNeg ((0 : Int64) ||| ((1 : Int64) <<< (zv.toInt64 &&& 63)))) 2 = (own_acc (XT.ushr zv (6 : Int32)) (2 : Int32) (own_acc (XT.ushr yv (6 : Int32)) (2 : Int32) (own_acc (XT.ushr xv (6 : Int32)) (2 : Int32) (j4 ^^^ (-1 : Int64)) ((1 : Int64) <<< (xv.toInt64 &&& 63))) ((1 : Int64) <<< (yv.toInt64 &&& 63))) ((1 : Int64) <<< (zv.toInt64 &&& 63))) := by
          rw [own_addacc (own_ix hzv) (kw := (2 : Int32)) (by decide) (by decide), own_addacc (own_ix hyv) (kw := (2 : Int32)) (by decide) (by decide), own_addacc (own_ix hxv) (kw := (2 : Int32)) (by decide) (by decide)]
          show own_acc (XT.ushr zv (6 : Int32)) (2 : Int32) (own_acc (XT.ushr yv (6 : Int32)) (2 : Int32) (own_acc (XT.ushr xv (6 : Int32)) (2 : Int32) ((j4 ^^^ (-1 : Int64))) ((0 : Int64) ||| ((1 : Int64) <<< (xv.toInt64 &&& 63)))) ((0 : Int64) ||| ((1 : Int64) <<< (yv.toInt64 &&& 63)))) ((0 : Int64) ||| ((1 : Int64) <<< (zv.toInt64 &&& 63))) = _
          (try simp only [own_z]) <;> by_cases uxv : XT.ushr xv (6 : Int32) = (2 : Int32) <;> by_cases uyv : XT.ushr yv (6 : Int32) = (2 : Int32) <;> by_cases uzv : XT.ushr zv (6 : Int32) = (2 : Int32) <;> simp [own_acc, uxv, uyv, uzv, Int64.or_assoc, Int64.or_comm, own_orl]
        have e1173 : (own_add (own_add (own_add (own_f j4 j5 (j4 ^^^ (-1 : Int64)) (j4 ^^^ j5)) (XT.ushr xv (6 : Int32)).toNatClampNeg ((0 : Int64) ||| ((1 : Int64) <<< (xv.toInt64 &&& 63)))) (XT.ushr yv (6 : Int32)).toNatClampNeg ((0 : Int64) ||| ((1 : Int64) <<< (yv.toInt64 &&& 63)))) (XT.ushr zv (6 : Int32)).toNatClampNeg ((0 : Int64) ||| ((1 : Int64) <<< (zv.toInt64 &&& 63)))) 3 = (own_acc (XT.ushr zv (6 : Int32)) (3 : Int32) (own_acc (XT.ushr yv (6 : Int32)) (3 : Int32) (own_acc (XT.ushr xv (6 : Int32)) (3 : Int32) (j4 ^^^ j5) ((1 : Int64) <<< (xv.toInt64 &&& 63))) ((1 : Int64) <<< (yv.toInt64 &&& 63))) ((1 : Int64) <<< (zv.toInt64 &&& 63))) := by
          rw [own_addacc (own_ix hzv) (kw := (3 : Int32)) (by decide) (by decide), own_addacc (own_ix hyv) (kw := (3 : Int32)) (by decide) (by decide), own_addacc (own_ix hxv) (kw := (3 : Int32)) (by decide) (by decide)]
          show own_acc (XT.ushr zv (6 : Int32)) (3 : Int32) (own_acc (XT.ushr yv (6 : Int32)) (3 : Int32) (own_acc (XT.ushr xv (6 : Int32)) (3 : Int32) ((j4 ^^^ j5)) ((0 : Int64) ||| ((1 : Int64) <<< (xv.toInt64 &&& 63)))) ((0 : Int64) ||| ((1 : Int64) <<< (yv.toInt64 &&& 63)))) ((0 : Int64) ||| ((1 : Int64) <<< (zv.toInt64 &&& 63))) = _
          (try simp only [own_z]) <;> by_cases uxv : XT.ushr xv (6 : Int32) = (3 : Int32) <;> by_cases uyv : XT.ushr yv (6 : Int32) = (3 : Int32) <;> by_cases uzv : XT.ushr zv (6 : Int32) = (3 : Int32) <;> simp [own_acc, uxv, uyv, uzv, Int64.or_assoc, Int64.or_comm, own_orl]
        have F1174 := (Exa.keep F1119 K1120)
        exact J3_3_0 _ _ _ bi1120 bw1120 k11120 k21120 (XT.ushr xv (6 : Int32)) (XT.ushr yv (6 : Int32)) (XT.ushr zv (6 : Int32)) ((0 : Int64) ||| ((1 : Int64) <<< (xv.toInt64 &&& 63))) ((0 : Int64) ||| ((1 : Int64) <<< (yv.toInt64 &&& 63))) ((0 : Int64) ||| ((1 : Int64) <<< (zv.toInt64 &&& 63))) (X1120.more (by decide) (by decide)) e1120 O1169 N1120a F1174 Q1120_0 Q1120_1 Q1120_2 Q1120_3 Q1120_4 Q1120_5 f1164 f1168 n1161 n1165 nn1120 (own_ix hxv) (own_ix hyv) (own_ix hzv) e1170 e1171 e1172 e1173
set_option maxRecDepth 65536 in
set_option maxHeartbeats 40000000 in
theorem comes_1 {Post : Tables → Env → Array Value → State → Outcome → State → Prop} (hpost : ∀ tb e args s v u, (limb_1_1.after args s (.returned v) u = true ∧ limb_1_2.after args s (.returned v) u = true ∧ True) → FrameEnd s (.returned v) u (Jvm.fieldLocs frame_1_writes args s ++ Jvm.arrayLocs frame_1_arrays args s ++ Jvm.staticLocs frame_1_statics s) 24 128 → Post tb e args s (.returned v) u) :
    ArmFor flags0 classFile x code maxLocals ret World_1 tables_1 room_1 Calls_1 rest_1 Pre_1 Post := by
  intro l hfl _ _ p e ha hc hk s m args below hf hA hF happ hP
  obtain ⟨hcalls, hrest, hpre⟩ := hP
  obtain ⟨-, -, -, hnamed, -, -, -, hat⟩ := (Spec.applies_iff hf).mp happ
  obtain ⟨hg, hn⟩ := and_e (Cond.before_iff.mp (show (Jvm.Cond.and given_1 narrow_1).before args s = true from hpre))
  obtain ⟨gv0, gvtr⟩ := and_e hg
  obtain ⟨gv1, gvtrr⟩ := and_e gvtr
  obtain ⟨gv2, gvtrrr⟩ := and_e gvtrr
  obtain ⟨gv3, gvtrrrr⟩ := and_e gvtrrr
  obtain ⟨gv4, gvtrrrrr⟩ := and_e gvtrrrr
  obtain ⟨gv5, gv6⟩ := and_e gvtrrrrr
  obtain ⟨w0, w1, w2, w3, w4, w5, rfl⟩ : ∃ w0 w1 w2 w3 w4 w5 : Value, args = #[w0, w1, w2, w3, w4, w5] := by
    have hs : args.size = 6 := by simpa [Cond.value, given_1] using gv0
    obtain ⟨L⟩ := args
    match L, hs with
    | [w0, w1, w2, w3, w4, w5], _ => exact ⟨w0, w1, w2, w3, w4, w5, rfl⟩
  have hw := fun d (hd : d ∈ tables_1) => atoms_spec (ws := Jvm.Cond.code x code maxLocals ret :: tables_1) hat d (List.mem_cons_of_mem _ hd)
  have hfit : Fit s := fun {y c} hc i hi => by
    obtain ⟨ha, rfl⟩ := Array.getElem?_eq_some_iff.mp hc
    have q := List.all_eq_true.mp ((Array.all_eq_true_iff_forall_mem.mp hF) _ (Array.getElem_mem ha)) i (List.mem_range.mpr hi)
    simpa [Array.getElem?_eq_getElem hi] using q
  obtain ⟨i0, ei0⟩ := is_v gv1
  obtain rfl : w0 = (.int i0) := Option.some.inj ei0
  obtain ⟨i1, ei1⟩ := is_v gv2
  obtain rfl : w1 = (.int i1) := Option.some.inj ei1
  obtain ⟨i2, ei2⟩ := is_v gv3
  obtain rfl : w2 = (.int i2) := Option.some.inj ei2
  obtain ⟨i3, ei3⟩ := is_v gv4
  obtain rfl : w3 = (.int i3) := Option.some.inj ei3
  obtain ⟨i4, ei4⟩ := isL_v gv5
  obtain rfl : w4 = (.long i4) := Option.some.inj ei4
  obtain ⟨i5, ei5⟩ := isL_v gv6
  obtain rfl : w5 = (.long i5) := Option.some.inj ei5
  obtain ⟨nr0, nrtr⟩ := and_e hn
  obtain ⟨nr1, nrtrr⟩ := and_e nrtr
  obtain ⟨nr2, nrtrrr⟩ := and_e nrtrr
  obtain ⟨nr3, nrtrrrr⟩ := and_e nrtrrr
  obtain ⟨nr4, nr5⟩ := and_e nrtrrrr
  obtain ⟨aI, ev_1⟩ := arr_v nr0
  have ft_2 := Sta.start ev_1 (Or.inr ⟨(hwi hw 2 rfl), (hwi hw 10 rfl)⟩)
  obtain ⟨cl_aI, ar_3⟩ := Arr.start ev_1 nr0
  have ex_4 := Exa.start ev_1 nr1
  have ev_5 := eqv_i (Term.int_eval (0 : Int32)) nr2
  obtain ⟨aW, ev_6⟩ := arr_v nr3
  have ft_7 := Sta.start ev_6 (Or.inr ⟨(hwi hw 2 rfl), (hwi hw 14 rfl)⟩)
  obtain ⟨cl_aW, ar_8⟩ := Arr.start ev_6 nr3
  have ex_9 := Exa.start ev_6 nr4
  have ev_10 := eqv_i (Term.int_eval (0 : Int32)) nr5
  have lav_11 := own_len ev_1 ar_3 ev_5
  have av_11 : Arv s s.heap aI cl_aI.cls .int (0 : Int32) [] (.int 0) := Arv.start hfit ar_3 lav_11.1 lav_11.2 (by decide) rfl trivial
  have lav_12 := own_len ev_6 ar_8 ev_10
  have av_12 : Arv s s.heap aW cl_aW.cls .long (0 : Int32) [] (.long 0) := Arv.start hfit ar_8 lav_12.1 lav_12.2 (by decide) rfl trivial
  obtain ⟨n, o, h1, h2, h3, _, L, rfl, ⟨rfl, N⟩, hq⟩ := (rm_law (l := l) hw i0 i1 i2 i3 i4 i5 aI aW cl_aI.cls cl_aW.cls s.heap ⟨Nat.le_refl _, fun _ _ q => q⟩ ft_2 ft_7 ex_4 ex_9 av_11 av_12) tables_1 p e ha hc hk s m _ below hf ((Spec.applies_iff_loose hf).mp happ).1 ⟨rfl, State.Warmed39.refl s, rfl⟩ trivial
  refine ⟨n, _, h1, h2, h3, hpost _ _ _ _ _ _ ⟨Cond.after_iff.mpr rfl, Cond.after_iff.mpr (eq_i res_at (Term.int_eval (1)) rfl), trivial⟩ ⟨hq.1, hq.2.1, (hq.2.2.sift fun y hy => Or.inr (N y hy)).mono (by decide) (by decide)⟩⟩
theorem main_1_1 : Claimed_1_1 := comes_1 fun _ _ _ _ _ _ h hF => ⟨h.1, hF⟩
theorem main_1_2 : Claimed_1_2 := comes_1 fun _ _ _ _ _ _ h hF => ⟨h.2.1, hF⟩
end Jvm.Pilot.@@N@@
namespace Jvm.Pilot.@@N@@
open Jvm Jvm.ClassFile Sem Op Lib Jvm.Free Jvm.Stand Jvm.Pilot.@@N@@.Jvm.D
/-! MADE BY PROGRAM (witnessworld.py) out of the Statement's table words and the real class files: 14 classes; the members and pool entries that the words name. The judged class is class 1, her method 1. -/
namespace start1
open Jvm.ClassFile
def u (s : String) : CpInfo := .utf8 (stringToUtf16 s)
/-- a pool by its gaps: so many unusable entries, then the entry; so many at the end -/
def gap : Nat → List CpInfo → List CpInfo
  | 0, r => r
  | n + 1, r => .unusable :: gap n r
def poolList (es : List (Nat × CpInfo)) (last : Nat) : List CpInfo := es.foldr (fun e r => gap e.1 (e.2 :: r)) (gap last [])
def pool (es : List (Nat × CpInfo)) (last : Nat) : Array CpInfo := ⟨poolList es last⟩
def fileOf (pool : Array CpInfo) (this : Nat) (attrs : Array Attribute := #[]) (ms : Array MethodInfo := #[]) (fl : Nat := 33) (sup : Nat := 0) (ifs : Array Nat := #[]) (fds : Array FieldInfo := #[]) : ClassFile where
  minorVersion := 0
  majorVersion := 65
  constantPool := pool
  accessFlags := fl
  thisClass := this
  superClass := sup
  interfaces := ifs
  fields := fds
  methods := ms
  attributes := attrs
def plain (name : String) (sup : Option ClassId) : Class where
  name := name
  kind := .ordinary
  loader := none
  accessFlags := 33
  super := sup
  interfaces := #[]
  cf := none
  fields := #[]
  methods := #[]
  instanceTypes := #[]
  staticTypes := #[]
  resolved := #[]
  callSites := []
  init := .initialized
  statics := none
  mirror := none

def pool0 : Array CpInfo := pool [(5, u "<init>"), (0, u "()V"), (1, .class_ 10), (1, u "java/lang/Object")] 113

def k0c0 : Code := { maxStack := 0, maxLocals := 1, code := object_method_1_code, exceptionTable := #[], attributes := #[] }
def k0m0 : Method := { name := "<init>", desc := "()V", sig := { parameters := [], returnType := none }, accessFlags := 1, code := some k0c0 }
/-- java/lang/Object -/
def k0 : Class := { plain "java/lang/Object" none with
  accessFlags := 33
  interfaces := #[]
  cf := some (fileOf pool0 8 #[] #[{ accessFlags := 1, nameIndex := 5, descriptorIndex := 6, attributes := #[] }] 33 0 #[] #[])
  fields := #[]
  methods := #[k0m0]
  instanceTypes := #[]
  staticTypes := #[]
  resolved := Array.replicate 124 none
  statics := none }

def pool1 : Array CpInfo := pool [(2, .class_ 4), (0, .nameAndType 5 6), (0, u "java/lang/Object"), (0, u "<init>"), (0, u "()V"), (0, .class_ 8), (0, u "com/example/libtbox/libtbox/core/SparseBitSet"), (0, .methodref 7 3), (0, .methodref 7 11), (0, .nameAndType 12 13), (0, u "set"), (0, u "(I)V"), (0, .long 18446744073709551615), (1, .methodref 7 17), (0, .nameAndType 18 19), (0, u "addTo"), (0, u "([J)V"), (0, .methodref 21 22), (0, .class_ 23), (0, .nameAndType 24 25), (0, u "com/example/libtbox/libtbox/core/SparseBitSetAddToPinLaw"), (0, u "expect"), (0, u "(IJIIII)J"), (2, u "law"), (0, u "(IIIIJJ)Z")] 5

def k1m0 : Method := { name := "<init>", desc := "()V", sig := { parameters := [], returnType := none }, accessFlags := 1, code := none }
def k1c1 : Code := { maxStack := 9, maxLocals := 22, code := code, exceptionTable := #[], attributes := #[] }
def k1m1 : Method := { name := "law", desc := "(IIIIJJ)Z", sig := { parameters := [.int, .int, .int, .int, .long, .long], returnType := some .boolean }, accessFlags := 9, code := some k1c1 }
def k1c2 : Code := { maxStack := 5, maxLocals := 9, code := method_3_code, exceptionTable := #[], attributes := #[] }
def k1m2 : Method := { name := "expect", desc := "(IJIIII)J", sig := { parameters := [.int, .long, .int, .int, .int, .int], returnType := some .long }, accessFlags := 10, code := some k1c2 }
/-- com/example/libtbox/libtbox/core/SparseBitSetAddToPinLaw -/
def k1 : Class := { plain "com/example/libtbox/libtbox/core/SparseBitSetAddToPinLaw" (some 0) with
  accessFlags := 49
  interfaces := #[]
  cf := some (fileOf pool1 21 #[] #[{ accessFlags := 1, nameIndex := 5, descriptorIndex := 6, attributes := #[] }, { accessFlags := 9, nameIndex := 28, descriptorIndex := 29, attributes := #[] }, { accessFlags := 10, nameIndex := 24, descriptorIndex := 25, attributes := #[] }] 49 2 #[] #[])
  fields := #[]
  methods := #[k1m0, k1m1, k1m2]
  instanceTypes := #[]
  staticTypes := #[]
  resolved := Array.replicate 35 none
  statics := none }

def pool2 : Array CpInfo := pool [(1, .methodref 2 3), (0, .class_ 4), (0, .nameAndType 5 6), (0, u "java/lang/Object"), (0, u "<init>"), (0, u "()V"), (0, .fieldref 8 9), (0, .class_ 10), (0, .nameAndType 11 12), (0, u "com/example/libtbox/libtbox/core/SparseBitSet"), (0, u "NO_INDICES"), (0, u "[I"), (0, .fieldref 8 14), (0, .nameAndType 15 12), (0, u "indices"), (0, .fieldref 8 17), (0, .nameAndType 18 19), (0, u "NO_WORDS"), (0, u "[J"), (0, .fieldref 8 21), (0, .nameAndType 22 19), (0, u "words"), (0, .methodref 8 24), (0, .nameAndType 25 26), (0, u "position"), (0, u "(I)I"), (0, .fieldref 8 28), (0, .nameAndType 29 30), (0, u "count"), (0, u "I"), (0, .methodref 8 32), (0, .nameAndType 33 34), (0, u "insert"), (0, u "(II)V"), (1, .methodref 8 37), (0, .nameAndType 38 39), (0, u "grow"), (0, u "(I)V"), (6, .methodref 47 48), (0, .class_ 49), (0, .nameAndType 50 51), (0, u "java/lang/System"), (0, u "arraycopy"), (0, u "(Ljava/lang/Object;ILjava/lang/Object;II)V"), (26, .class_ 80), (1, u "java/util/Arrays"), (13, .fieldref 8 95), (0, .nameAndType 96 30), (0, u "lastFound"), (0, .methodref 78 98), (0, .nameAndType 99 100), (0, u "binarySearch"), (0, u "([IIII)I"), (0, .methodref 102 103), (0, .class_ 104), (0, .nameAndType 105 106), (0, u "java/lang/Math"), (0, u "max"), (0, u "(II)I"), (0, .methodref 78 108), (0, .nameAndType 109 110), (0, u "copyOf"), (0, u "([II)[I"), (0, .methodref 78 112), (0, .nameAndType 109 113), (0, u "([JI)[J"), (5, u "set"), (7, u "addTo"), (0, u "([J)V")] 6

def k2c0 : Code := { maxStack := 2, maxLocals := 1, code := prog_51_method_1_code, exceptionTable := #[], attributes := #[] }
def k2m0 : Method := { name := "<init>", desc := "()V", sig := { parameters := [], returnType := none }, accessFlags := 0, code := some k2c0 }
def k2c1 : Code := { maxStack := 7, maxLocals := 4, code := prog_51_method_4_code, exceptionTable := #[], attributes := #[] }
def k2m1 : Method := { name := "set", desc := "(I)V", sig := { parameters := [.int], returnType := none }, accessFlags := 0, code := some k2c1 }
def k2c2 : Code := { maxStack := 6, maxLocals := 3, code := prog_51_method_14_code, exceptionTable := #[], attributes := #[] }
def k2m2 : Method := { name := "addTo", desc := "([J)V", sig := { parameters := [(.array .long)], returnType := none }, accessFlags := 0, code := some k2c2 }
def k2c3 : Code := { maxStack := 4, maxLocals := 4, code := prog_51_method_18_code, exceptionTable := #[], attributes := #[] }
def k2m3 : Method := { name := "position", desc := "(I)I", sig := { parameters := [.int], returnType := some .int }, accessFlags := 2, code := some k2c3 }
def k2c4 : Code := { maxStack := 6, maxLocals := 3, code := prog_51_method_19_code, exceptionTable := #[], attributes := #[] }
def k2m4 : Method := { name := "insert", desc := "(II)V", sig := { parameters := [.int, .int], returnType := none }, accessFlags := 2, code := some k2c4 }
def k2c5 : Code := { maxStack := 4, maxLocals := 3, code := prog_51_method_20_code, exceptionTable := #[], attributes := #[] }
def k2m5 : Method := { name := "grow", desc := "(I)V", sig := { parameters := [.int], returnType := none }, accessFlags := 2, code := some k2c5 }
/-- com/example/libtbox/libtbox/core/SparseBitSet -/
def k2 : Class := { plain "com/example/libtbox/libtbox/core/SparseBitSet" (some 0) with
  accessFlags := 32
  interfaces := #[]
  cf := some (fileOf pool2 8 #[] #[{ accessFlags := 0, nameIndex := 5, descriptorIndex := 6, attributes := #[] }, { accessFlags := 0, nameIndex := 119, descriptorIndex := 39, attributes := #[] }, { accessFlags := 0, nameIndex := 127, descriptorIndex := 128, attributes := #[] }, { accessFlags := 2, nameIndex := 25, descriptorIndex := 26, attributes := #[] }, { accessFlags := 2, nameIndex := 33, descriptorIndex := 34, attributes := #[] }, { accessFlags := 2, nameIndex := 38, descriptorIndex := 39, attributes := #[] }] 32 2 #[] #[{ accessFlags := 26, nameIndex := 11, descriptorIndex := 12, attributes := #[] }, { accessFlags := 26, nameIndex := 18, descriptorIndex := 19, attributes := #[] }, { accessFlags := 2, nameIndex := 15, descriptorIndex := 12, attributes := #[] }, { accessFlags := 2, nameIndex := 22, descriptorIndex := 19, attributes := #[] }, { accessFlags := 2, nameIndex := 29, descriptorIndex := 30, attributes := #[] }, { accessFlags := 2, nameIndex := 96, descriptorIndex := 30, attributes := #[] }])
  fields := #[{ name := "NO_INDICES", type := (.array .int), accessFlags := 26, slot := 0, constantValue := 0 }, { name := "NO_WORDS", type := (.array .long), accessFlags := 26, slot := 1, constantValue := 0 }, { name := "indices", type := (.array .int), accessFlags := 2, slot := 0, constantValue := 0 }, { name := "words", type := (.array .long), accessFlags := 2, slot := 1, constantValue := 0 }, { name := "count", type := .int, accessFlags := 2, slot := 2, constantValue := 0 }, { name := "lastFound", type := .int, accessFlags := 2, slot := 3, constantValue := 0 }]
  methods := #[k2m0, k2m1, k2m2, k2m3, k2m4, k2m5]
  instanceTypes := #[(.array .int), (.array .long), .int, .int]
  staticTypes := #[(.array .int), (.array .long)]
  resolved := Array.replicate 135 none
  statics := some 0 }

def pool3 : Array CpInfo := pool [(1, .class_ 2), (0, u "java/lang/Math"), (1, .class_ 6), (1, u "java/lang/Object"), (0, u "<init>"), (0, u "()V"), (89, .class_ 100), (1, u "java/lang/Math$RandomNumberGeneratorHolder"), (71, u "negativeZeroFloatBits"), (0, u "J"), (2, u "negativeZeroDoubleBits"), (21, u "max"), (2, u "min"), (43, u "$assertionsDisabled"), (0, u "Z"), (88, u "(II)I"), (2, u "twoToTheDoubleScaleDown"), (0, u "D"), (4, u "twoToTheDoubleScaleUp"), (9, u "E"), (3, u "PI"), (2, u "TAU"), (2, u "DEGREES_TO_RADIANS"), (0, u "RADIANS_TO_DEGREES")] 94

def k3m0 : Method := { name := "<init>", desc := "()V", sig := { parameters := [], returnType := none }, accessFlags := 2, code := none }
def k3c1 : Code := { maxStack := 2, maxLocals := 2, code := jdk_29_method_65_code, exceptionTable := #[], attributes := #[] }
def k3m1 : Method := { name := "max", desc := "(II)I", sig := { parameters := [.int, .int], returnType := some .int }, accessFlags := 9, code := some k3c1 }
def k3c2 : Code := { maxStack := 2, maxLocals := 2, code := jdk_29_method_69_code, exceptionTable := #[], attributes := #[] }
def k3m2 : Method := { name := "min", desc := "(II)I", sig := { parameters := [.int, .int], returnType := some .int }, accessFlags := 9, code := some k3c2 }
/-- java/lang/Math -/
def k3 : Class := { plain "java/lang/Math" (some 0) with
  accessFlags := 49
  interfaces := #[]
  cf := some (fileOf pool3 1 #[.nestMembers #[98]] #[{ accessFlags := 2, nameIndex := 7, descriptorIndex := 8, attributes := #[] }, { accessFlags := 9, nameIndex := 198, descriptorIndex := 335, attributes := #[] }, { accessFlags := 9, nameIndex := 201, descriptorIndex := 335, attributes := #[] }] 49 4 #[] #[{ accessFlags := 25, nameIndex := 354, descriptorIndex := 339, attributes := #[] }, { accessFlags := 25, nameIndex := 358, descriptorIndex := 339, attributes := #[] }, { accessFlags := 25, nameIndex := 361, descriptorIndex := 339, attributes := #[] }, { accessFlags := 26, nameIndex := 364, descriptorIndex := 339, attributes := #[] }, { accessFlags := 26, nameIndex := 365, descriptorIndex := 339, attributes := #[] }, { accessFlags := 26, nameIndex := 172, descriptorIndex := 173, attributes := #[] }, { accessFlags := 26, nameIndex := 176, descriptorIndex := 173, attributes := #[] }, { accessFlags := 8, nameIndex := 344, descriptorIndex := 339, attributes := #[] }, { accessFlags := 8, nameIndex := 338, descriptorIndex := 339, attributes := #[] }, { accessFlags := 4120, nameIndex := 245, descriptorIndex := 246, attributes := #[] }])
  fields := #[{ name := "E", type := .double, accessFlags := 25, slot := 0, constantValue := 0 }, { name := "PI", type := .double, accessFlags := 25, slot := 1, constantValue := 0 }, { name := "TAU", type := .double, accessFlags := 25, slot := 2, constantValue := 0 }, { name := "DEGREES_TO_RADIANS", type := .double, accessFlags := 26, slot := 3, constantValue := 0 }, { name := "RADIANS_TO_DEGREES", type := .double, accessFlags := 26, slot := 4, constantValue := 0 }, { name := "negativeZeroFloatBits", type := .long, accessFlags := 26, slot := 5, constantValue := 0 }, { name := "negativeZeroDoubleBits", type := .long, accessFlags := 26, slot := 6, constantValue := 0 }, { name := "twoToTheDoubleScaleUp", type := .double, accessFlags := 8, slot := 7, constantValue := 0 }, { name := "twoToTheDoubleScaleDown", type := .double, accessFlags := 8, slot := 8, constantValue := 0 }, { name := "$assertionsDisabled", type := .boolean, accessFlags := 4120, slot := 9, constantValue := 0 }]
  methods := #[k3m0, k3m1, k3m2]
  instanceTypes := #[]
  staticTypes := #[.double, .double, .double, .double, .double, .long, .long, .double, .double, .boolean]
  resolved := Array.replicate 460 none
  statics := none }

def pool4 : Array CpInfo := pool [(2, .class_ 4), (1, u "java/lang/Object"), (0, u "<init>"), (0, u "()V"), (6, .methodref 14 15), (0, .class_ 16), (0, .nameAndType 17 18), (0, u "java/util/Arrays"), (0, u "rangeCheck"), (0, u "(III)V"), (55, .class_ 76), (1, u "java/util/Arrays$NaturalOrder"), (36, .class_ 115), (1, u "java/util/Arrays$LegacyMergeSort"), (1, u "Z"), (32, .methodref 151 152), (0, .class_ 153), (0, .nameAndType 154 155), (0, u "java/lang/System"), (0, u "arraycopy"), (0, u "(Ljava/lang/Object;ILjava/lang/Object;II)V"), (51, u "binarySearch0"), (1, .methodref 14 210), (0, .nameAndType 207 211), (0, u "([IIII)I"), (90, u "copyOf"), (1, .methodref 305 306), (0, .class_ 307), (0, .nameAndType 308 309), (0, u "java/lang/Math"), (0, u "min"), (0, u "(II)I"), (65, .class_ 376), (0, u "java/util/Arrays$ArrayList"), (68, u "$assertionsDisabled"), (269, u "MIN_ARRAY_SORT_GRAN"), (0, u "I"), (2, u "INSERTIONSORT_THRESHOLD"), (74, u "binarySearch"), (76, u "([II)[I"), (0, u "([JI)[J"), (102, .class_ 976), (0, u "java/util/Arrays$ArrayItr")] 52

def k4m0 : Method := { name := "<init>", desc := "()V", sig := { parameters := [], returnType := none }, accessFlags := 2, code := none }
def k4c1 : Code := { maxStack := 4, maxLocals := 3, code := jdk_65_method_30_code, exceptionTable := #[], attributes := #[] }
def k4m1 : Method := { name := "rangeCheck", desc := "(III)V", sig := { parameters := [.int, .int, .int], returnType := none }, accessFlags := 8, code := some k4c1 }
def k4c2 : Code := { maxStack := 4, maxLocals := 4, code := jdk_65_method_58_code, exceptionTable := #[], attributes := #[] }
def k4m2 : Method := { name := "binarySearch", desc := "([IIII)I", sig := { parameters := [(.array .int), .int, .int, .int], returnType := some .int }, accessFlags := 9, code := some k4c2 }
def k4c3 : Code := { maxStack := 2, maxLocals := 8, code := jdk_65_method_59_code, exceptionTable := #[], attributes := #[] }
def k4m3 : Method := { name := "binarySearch0", desc := "([IIII)I", sig := { parameters := [(.array .int), .int, .int, .int], returnType := some .int }, accessFlags := 10, code := some k4c3 }
def k4c4 : Code := { maxStack := 6, maxLocals := 3, code := jdk_65_method_123_code, exceptionTable := #[], attributes := #[] }
def k4m4 : Method := { name := "copyOf", desc := "([II)[I", sig := { parameters := [(.array .int), .int], returnType := some (.array .int) }, accessFlags := 9, code := some k4c4 }
def k4c5 : Code := { maxStack := 6, maxLocals := 3, code := jdk_65_method_124_code, exceptionTable := #[], attributes := #[] }
def k4m5 : Method := { name := "copyOf", desc := "([JI)[J", sig := { parameters := [(.array .long), .int], returnType := some (.array .long) }, accessFlags := 9, code := some k4c5 }
/-- java/util/Arrays -/
def k4 : Class := { plain "java/util/Arrays" (some 0) with
  accessFlags := 49
  interfaces := #[]
  cf := some (fileOf pool4 14 #[.nestMembers #[975, 375, 113, 74]] #[{ accessFlags := 2, nameIndex := 5, descriptorIndex := 6, attributes := #[] }, { accessFlags := 8, nameIndex := 17, descriptorIndex := 18, attributes := #[] }, { accessFlags := 9, nameIndex := 794, descriptorIndex := 211, attributes := #[] }, { accessFlags := 10, nameIndex := 207, descriptorIndex := 211, attributes := #[] }, { accessFlags := 9, nameIndex := 302, descriptorIndex := 871, attributes := #[] }, { accessFlags := 9, nameIndex := 302, descriptorIndex := 872, attributes := #[] }] 49 2 #[] #[{ accessFlags := 26, nameIndex := 715, descriptorIndex := 716, attributes := #[] }, { accessFlags := 26, nameIndex := 719, descriptorIndex := 716, attributes := #[] }, { accessFlags := 4120, nameIndex := 445, descriptorIndex := 117, attributes := #[] }])
  fields := #[{ name := "MIN_ARRAY_SORT_GRAN", type := .int, accessFlags := 26, slot := 0, constantValue := 0 }, { name := "INSERTIONSORT_THRESHOLD", type := .int, accessFlags := 26, slot := 1, constantValue := 0 }, { name := "$assertionsDisabled", type := .boolean, accessFlags := 4120, slot := 2, constantValue := 0 }]
  methods := #[k4m0, k4m1, k4m2, k4m3, k4m4, k4m5]
  instanceTypes := #[]
  staticTypes := #[.int, .int, .boolean]
  resolved := Array.replicate 1029 none
  statics := none }

def pool5 : Array CpInfo := pool [(2, .class_ 4), (1, u "java/lang/Object"), (0, u "<init>"), (0, u "()V"), (1, .class_ 10), (1, u "java/lang/System"), (0, u "allowSecurityManager"), (0, u "I"), (16, u "cons"), (0, u "Ljava/io/Console;"), (77, .class_ 110), (1, u "java/lang/System$CallersHolder"), (43, u "initialErrStream"), (0, u "Ljava/io/PrintStream;"), (19, u "security"), (0, u "Ljava/lang/SecurityManager;"), (31, .class_ 209), (0, u "java/lang/System$1"), (7, u "props"), (0, u "Ljava/util/Properties;"), (2, u "lineSeparator"), (0, u "Ljava/lang/String;"), (96, .class_ 321), (1, u "java/lang/System$LoggerFinder"), (5, .class_ 328), (0, u "java/lang/System$Logger"), (67, u "err"), (2, u "out"), (91, u "notSupportedJnuEncoding"), (15, u "in"), (17, u "initialIn"), (0, u "Ljava/io/InputStream;"), (35, u "bootLayer"), (0, u "Ljava/lang/ModuleLayer;"), (99, .class_ 664), (0, u "java/lang/System$2"), (9, u "NEVER"), (2, u "MAYBE"), (49, u "arraycopy"), (0, u "(Ljava/lang/Object;ILjava/lang/Object;II)V"), (72, .class_ 802), (0, u "java/lang/System$Logger$Level")] 31

def k5m0 : Method := { name := "<init>", desc := "()V", sig := { parameters := [], returnType := none }, accessFlags := 2, code := none }
def k5m1 : Method := { name := "arraycopy", desc := "(Ljava/lang/Object;ILjava/lang/Object;II)V", sig := { parameters := [(.object "java/lang/Object"), .int, (.object "java/lang/Object"), .int, .int], returnType := none }, accessFlags := 265, code := none }
/-- java/lang/System -/
def k5 : Class := { plain "java/lang/System" (some 0) with
  accessFlags := 49
  interfaces := #[]
  cf := some (fileOf pool5 8 #[.nestMembers #[319, 327, 801, 108, 663, 208]] #[{ accessFlags := 2, nameIndex := 5, descriptorIndex := 6, attributes := #[] }, { accessFlags := 265, nameIndex := 727, descriptorIndex := 728, attributes := #[] }] 49 2 #[] #[{ accessFlags := 25, nameIndex := 507, descriptorIndex := 526, attributes := #[] }, { accessFlags := 25, nameIndex := 399, descriptorIndex := 155, attributes := #[] }, { accessFlags := 25, nameIndex := 396, descriptorIndex := 155, attributes := #[] }, { accessFlags := 10, nameIndex := 525, descriptorIndex := 526, attributes := #[] }, { accessFlags := 26, nameIndex := 674, descriptorIndex := 12, attributes := #[] }, { accessFlags := 26, nameIndex := 677, descriptorIndex := 12, attributes := #[] }, { accessFlags := 10, nameIndex := 11, descriptorIndex := 12, attributes := #[] }, { accessFlags := 74, nameIndex := 175, descriptorIndex := 176, attributes := #[] }, { accessFlags := 10, nameIndex := 491, descriptorIndex := 222, attributes := #[] }, { accessFlags := 74, nameIndex := 29, descriptorIndex := 30, attributes := #[] }, { accessFlags := 74, nameIndex := 154, descriptorIndex := 155, attributes := #[] }, { accessFlags := 10, nameIndex := 217, descriptorIndex := 218, attributes := #[] }, { accessFlags := 10, nameIndex := 221, descriptorIndex := 222, attributes := #[] }, { accessFlags := 8, nameIndex := 562, descriptorIndex := 563, attributes := #[] }])
  fields := #[{ name := "in", type := (.object "java/io/InputStream"), accessFlags := 25, slot := 0, constantValue := 0 }, { name := "out", type := (.object "java/io/PrintStream"), accessFlags := 25, slot := 1, constantValue := 0 }, { name := "err", type := (.object "java/io/PrintStream"), accessFlags := 25, slot := 2, constantValue := 0 }, { name := "initialIn", type := (.object "java/io/InputStream"), accessFlags := 10, slot := 3, constantValue := 0 }, { name := "NEVER", type := .int, accessFlags := 26, slot := 4, constantValue := 0 }, { name := "MAYBE", type := .int, accessFlags := 26, slot := 5, constantValue := 0 }, { name := "allowSecurityManager", type := .int, accessFlags := 10, slot := 6, constantValue := 0 }, { name := "security", type := (.object "java/lang/SecurityManager"), accessFlags := 74, slot := 7, constantValue := 0 }, { name := "notSupportedJnuEncoding", type := (.object "java/lang/String"), accessFlags := 10, slot := 8, constantValue := 0 }, { name := "cons", type := (.object "java/io/Console"), accessFlags := 74, slot := 9, constantValue := 0 }, { name := "initialErrStream", type := (.object "java/io/PrintStream"), accessFlags := 74, slot := 10, constantValue := 0 }, { name := "props", type := (.object "java/util/Properties"), accessFlags := 10, slot := 11, constantValue := 0 }, { name := "lineSeparator", type := (.object "java/lang/String"), accessFlags := 10, slot := 12, constantValue := 0 }, { name := "bootLayer", type := (.object "java/lang/ModuleLayer"), accessFlags := 8, slot := 13, constantValue := 0 }]
  methods := #[k5m0, k5m1]
  instanceTypes := #[]
  staticTypes := #[(.object "java/io/InputStream"), (.object "java/io/PrintStream"), (.object "java/io/PrintStream"), (.object "java/io/InputStream"), .int, .int, .int, (.object "java/lang/SecurityManager"), (.object "java/lang/String"), (.object "java/io/Console"), (.object "java/io/PrintStream"), (.object "java/util/Properties"), (.object "java/lang/String"), (.object "java/lang/ModuleLayer")]
  resolved := Array.replicate 834 none
  statics := none }

def pool6 : Array CpInfo := pool [(1, u "java/lang/Cloneable"), (0, .class_ 1), (0, u "java/lang/Object"), (0, .class_ 3)] 3

/-- java/lang/Cloneable -/
def k6 : Class := { plain "java/lang/Cloneable" (some 0) with
  accessFlags := 1537
  interfaces := #[]
  cf := some (fileOf pool6 2 #[] #[] 1537 4 #[] #[])
  fields := #[]
  methods := #[]
  instanceTypes := #[]
  staticTypes := #[]
  resolved := Array.replicate 8 none
  statics := none }

def pool7 : Array CpInfo := pool [(1, u "java/io/Serializable"), (0, .class_ 1), (0, u "java/lang/Object"), (0, .class_ 3)] 3

/-- java/io/Serializable -/
def k7 : Class := { plain "java/io/Serializable" (some 0) with
  accessFlags := 1537
  interfaces := #[]
  cf := some (fileOf pool7 2 #[] #[] 1537 4 #[] #[])
  fields := #[]
  methods := #[]
  instanceTypes := #[]
  staticTypes := #[]
  resolved := Array.replicate 8 none
  statics := none }

/-- the primitive byte -/
def k8 : Class := { plain "byte" none with kind := .primitive 'B', accessFlags := 0x411 }
/-- [B -/
def k9 : Class := { plain "[B" (some 0) with kind := .array 8 .byte, interfaces := #[6, 7], accessFlags := 1041 }

/-- the primitive int -/
def k10 : Class := { plain "int" none with kind := .primitive 'I', accessFlags := 0x411 }
/-- [I -/
def k11 : Class := { plain "[I" (some 0) with kind := .array 10 .int, interfaces := #[6, 7], accessFlags := 1041 }

/-- the primitive long -/
def k12 : Class := { plain "long" none with kind := .primitive 'J', accessFlags := 0x411 }
/-- [J -/
def k13 : Class := { plain "[J" (some 0) with kind := .array 12 .long, interfaces := #[6, 7], accessFlags := 1041 }

def heap : Heap := #[{ cls := 2, slots := #[.ref 1, .ref 2], vm := .statics 2 },
  { cls := 11, slots := #[], vm := .none },
  { cls := 13, slots := #[], vm := .none }]
def classes : Array Class := #[k0, k1, k2, k3, k4, k5, k6, k7, k8, k9, k10, k11, k12, k13]
def interned : List (Array UInt16 × Addr) := []
def slotsUsed : Nat := 2
def theMethod : MethodId := ⟨1, 1⟩
def args0 : Array Value := #[.int 1, .int 2, .int 3, .int 3, .long 5, .long 6]
def aboutOver (below : List Frame) : State where
  vm := { classes := classes, interned := interned.toArray }
  heap := heap
  slotsUsed := slotsUsed
  threads := #[{ frames := .invoking theMethod args0 :: below }]
def below0 : List Frame := [.native { method := ⟨0, 0⟩, args := #[] }]
def about1 : State := aboutOver below0
def p0 : Program := .bare "" "" ""
def e0 : Env := launch0.env 0 0 0
theorem w_frames : about1.frames = Frame.invoking theMethod args0 :: below0 := rfl
set_option maxRecDepth 65536 in
theorem w_args : argsFit about1.vm theMethod args0 = true := by decide +kernel
set_option maxRecDepth 65536 in
theorem w_heap : heapFits about1 = true := by decide +kernel
set_option maxRecDepth 65536 in
theorem w_runnable : about1.curStatus? = some .runnable := by decide +kernel
set_option maxRecDepth 65536 in
theorem w_alone : about1.alone = true := by decide +kernel
set_option maxRecDepth 65536 in
theorem w_named : about1.methodNamed? x = some theMethod := by decide +kernel
set_option maxRecDepth 65536 in
theorem w_hears : about1.hears theMethod below0 = true := by decide +kernel
set_option maxRecDepth 65536 in
theorem w_ripe : about1.ripe theMethod args0 below0 = true := by decide +kernel
theorem w_running : about1.status = .running := rfl
set_option maxRecDepth 65536 in
theorem w_room : about1.hasRoom e0.platform room_1 = true :=
  launch0.hasRoom_least _ room_1 (by decide +kernel) (by decide +kernel) (by decide +kernel) (by decide +kernel) (by decide +kernel) (by decide +kernel)
theorem allAtoms_all (ts : List Jvm.Cond) (a : Array Jvm.Value) (st : Jvm.State) : (allAtoms ts).before a st = ts.all (fun c => c.before a st) := by
  induction ts with
  | nil => rfl
  | cons c t ih =>
    show (Jvm.Cond.and c (allAtoms t)).before a st = _
    rw [Jvm.Cond.before_and, ih, List.all_cons]
def words1 : List Jvm.Cond := Jvm.Cond.code x code maxLocals ret :: tables_1
/-- a 'code' word, met by the world's own term for the bytes: nothing is compared byte by byte -/
theorem code_word {y : MethodName} {bytes : ByteArray} {mx : Nat} {rt : Option FieldType} {a : Array Value} {s : State} {m : MethodId} {meth : Method} {c : Code} (h1 : s.methodNamed? y = some m) (h2 : s.vm.method? m = some meth) (h3 : meth.code = some c) (h4 : c.code = bytes)
    (h5 : (c.maxLocals == mx && c.exceptionTable.isEmpty && decide (c.maxStack ≤ mostOperands) && decide (meth.sig.returnType = rt) && !meth.locks && decide (parseMethodDescriptor y.desc = some meth.sig)) = true) : (Jvm.Cond.code y bytes mx rt).before a s = true := by
  simp only [Bool.and_eq_true, beq_iff_eq, Bool.not_eq_true', decide_eq_true_eq] at h5
  obtain ⟨⟨⟨⟨⟨g1, g2⟩, g3⟩, g4⟩, g5⟩, g6⟩ := h5
  simp [Cond.before, Cond.holds, Cond.value, h1, h2, h3, h4, g1, g2, g3, g4, g5, g6]
def isCode : Jvm.Cond → Bool
  | .code _ _ _ _ => true
  | _ => false
theorem all_split {L : List Jvm.Cond} {P : Jvm.Cond → Bool} (h1 : L.all (fun c => isCode c || P c) = true) (h2 : ∀ c ∈ L.filter isCode, P c = true) : L.all P = true := by
  refine List.all_eq_true.mpr fun c hc => ?_
  have h := List.all_eq_true.mp h1 c hc
  rcases Bool.eq_false_or_eq_true (isCode c) with hi | hi
  · exact h2 c (List.mem_filter.mpr ⟨hc, hi⟩)
  · simpa [hi] using h
set_option maxRecDepth 65536 in
theorem w_c0 : (Jvm.Cond.code x code maxLocals ret).before args0 about1 = true := code_word (m := ⟨1, 1⟩) (meth := k1m1) (c := k1c1) (by decide +kernel) rfl rfl rfl (by decide +kernel)
set_option maxRecDepth 65536 in
theorem w_c1 : (Jvm.Cond.code ({ cls := "com/example/libtbox/libtbox/core/SparseBitSet", name := "<init>", desc := "()V" } : Jvm.MethodName) prog_51_method_1_code (1 : Nat) (Option.none : Option Jvm.ClassFile.FieldType)).before args0 about1 = true := code_word (m := ⟨2, 0⟩) (meth := k2m0) (c := k2c0) (by decide +kernel) rfl rfl rfl (by decide +kernel)
set_option maxRecDepth 65536 in
theorem w_c2 : (Jvm.Cond.code ({ cls := "java/lang/Object", name := "<init>", desc := "()V" } : Jvm.MethodName) object_method_1_code (1 : Nat) (Option.none : Option Jvm.ClassFile.FieldType)).before args0 about1 = true := code_word (m := ⟨0, 0⟩) (meth := k0m0) (c := k0c0) (by decide +kernel) rfl rfl rfl (by decide +kernel)
set_option maxRecDepth 65536 in
theorem w_c3 : (Jvm.Cond.code ({ cls := "com/example/libtbox/libtbox/core/SparseBitSet", name := "set", desc := "(I)V" } : Jvm.MethodName) prog_51_method_4_code (4 : Nat) (Option.none : Option Jvm.ClassFile.FieldType)).before args0 about1 = true := code_word (m := ⟨2, 1⟩) (meth := k2m1) (c := k2c1) (by decide +kernel) rfl rfl rfl (by decide +kernel)
set_option maxRecDepth 65536 in
theorem w_c4 : (Jvm.Cond.code ({ cls := "com/example/libtbox/libtbox/core/SparseBitSet", name := "position", desc := "(I)I" } : Jvm.MethodName) prog_51_method_18_code (4 : Nat) (Option.some Jvm.ClassFile.FieldType.int)).before args0 about1 = true := code_word (m := ⟨2, 3⟩) (meth := k2m3) (c := k2c3) (by decide +kernel) rfl rfl rfl (by decide +kernel)
set_option maxRecDepth 65536 in
theorem w_c5 : (Jvm.Cond.code ({ cls := "com/example/libtbox/libtbox/core/SparseBitSet", name := "insert", desc := "(II)V" } : Jvm.MethodName) prog_51_method_19_code (3 : Nat) (Option.none : Option Jvm.ClassFile.FieldType)).before args0 about1 = true := code_word (m := ⟨2, 4⟩) (meth := k2m4) (c := k2c4) (by decide +kernel) rfl rfl rfl (by decide +kernel)
set_option maxRecDepth 65536 in
theorem w_c6 : (Jvm.Cond.code ({ cls := "com/example/libtbox/libtbox/core/SparseBitSet", name := "grow", desc := "(I)V" } : Jvm.MethodName) prog_51_method_20_code (3 : Nat) (Option.none : Option Jvm.ClassFile.FieldType)).before args0 about1 = true := code_word (m := ⟨2, 5⟩) (meth := k2m5) (c := k2c5) (by decide +kernel) rfl rfl rfl (by decide +kernel)
set_option maxRecDepth 65536 in
theorem w_c7 : (Jvm.Cond.code ({ cls := "java/lang/Math", name := "max", desc := "(II)I" } : Jvm.MethodName) jdk_29_method_65_code (2 : Nat) (Option.some Jvm.ClassFile.FieldType.int)).before args0 about1 = true := code_word (m := ⟨3, 1⟩) (meth := k3m1) (c := k3c1) (by decide +kernel) rfl rfl rfl (by decide +kernel)
set_option maxRecDepth 65536 in
theorem w_c8 : (Jvm.Cond.code ({ cls := "java/util/Arrays", name := "copyOf", desc := "([II)[I" } : Jvm.MethodName) jdk_65_method_123_code (3 : Nat) (Option.some (Jvm.ClassFile.FieldType.array Jvm.ClassFile.FieldType.int))).before args0 about1 = true := code_word (m := ⟨4, 4⟩) (meth := k4m4) (c := k4c4) (by decide +kernel) rfl rfl rfl (by decide +kernel)
set_option maxRecDepth 65536 in
theorem w_c9 : (Jvm.Cond.code ({ cls := "java/lang/Math", name := "min", desc := "(II)I" } : Jvm.MethodName) jdk_29_method_69_code (2 : Nat) (Option.some Jvm.ClassFile.FieldType.int)).before args0 about1 = true := code_word (m := ⟨3, 2⟩) (meth := k3m2) (c := k3c2) (by decide +kernel) rfl rfl rfl (by decide +kernel)
set_option maxRecDepth 65536 in
theorem w_c10 : (Jvm.Cond.code ({ cls := "java/util/Arrays", name := "copyOf", desc := "([JI)[J" } : Jvm.MethodName) jdk_65_method_124_code (3 : Nat) (Option.some (Jvm.ClassFile.FieldType.array Jvm.ClassFile.FieldType.long))).before args0 about1 = true := code_word (m := ⟨4, 5⟩) (meth := k4m5) (c := k4c5) (by decide +kernel) rfl rfl rfl (by decide +kernel)
set_option maxRecDepth 65536 in
theorem w_c11 : (Jvm.Cond.code ({ cls := "com/example/libtbox/libtbox/core/SparseBitSet", name := "addTo", desc := "([J)V" } : Jvm.MethodName) prog_51_method_14_code (3 : Nat) (Option.none : Option Jvm.ClassFile.FieldType)).before args0 about1 = true := code_word (m := ⟨2, 2⟩) (meth := k2m2) (c := k2c2) (by decide +kernel) rfl rfl rfl (by decide +kernel)
set_option maxRecDepth 65536 in
theorem w_c12 : (Jvm.Cond.code ({ cls := "com/example/libtbox/libtbox/core/SparseBitSetAddToPinLaw", name := "expect", desc := "(IJIIII)J" } : Jvm.MethodName) method_3_code (9 : Nat) (Option.some Jvm.ClassFile.FieldType.long)).before args0 about1 = true := code_word (m := ⟨1, 2⟩) (meth := k1m2) (c := k1c2) (by decide +kernel) rfl rfl rfl (by decide +kernel)
set_option maxRecDepth 65536 in
theorem w_c13 : (Jvm.Cond.code ({ cls := "java/util/Arrays", name := "binarySearch", desc := "([IIII)I" } : Jvm.MethodName) jdk_65_method_58_code (4 : Nat) (Option.some Jvm.ClassFile.FieldType.int)).before args0 about1 = true := code_word (m := ⟨4, 2⟩) (meth := k4m2) (c := k4c2) (by decide +kernel) rfl rfl rfl (by decide +kernel)
set_option maxRecDepth 65536 in
theorem w_c14 : (Jvm.Cond.code ({ cls := "java/util/Arrays", name := "rangeCheck", desc := "(III)V" } : Jvm.MethodName) jdk_65_method_30_code (3 : Nat) (Option.none : Option Jvm.ClassFile.FieldType)).before args0 about1 = true := code_word (m := ⟨4, 1⟩) (meth := k4m1) (c := k4c1) (by decide +kernel) rfl rfl rfl (by decide +kernel)
set_option maxRecDepth 65536 in
theorem w_c15 : (Jvm.Cond.code ({ cls := "java/util/Arrays", name := "binarySearch0", desc := "([IIII)I" } : Jvm.MethodName) jdk_65_method_59_code (8 : Nat) (Option.some Jvm.ClassFile.FieldType.int)).before args0 about1 = true := code_word (m := ⟨4, 3⟩) (meth := k4m3) (c := k4c3) (by decide +kernel) rfl rfl rfl (by decide +kernel)
def codes1 : List Jvm.Cond := [Jvm.Cond.code x code maxLocals ret, Jvm.Cond.code ({ cls := "com/example/libtbox/libtbox/core/SparseBitSet", name := "<init>", desc := "()V" } : Jvm.MethodName) prog_51_method_1_code (1 : Nat) (Option.none : Option Jvm.ClassFile.FieldType), Jvm.Cond.code ({ cls := "java/lang/Object", name := "<init>", desc := "()V" } : Jvm.MethodName) object_method_1_code (1 : Nat) (Option.none : Option Jvm.ClassFile.FieldType), Jvm.Cond.code ({ cls := "com/example/libtbox/libtbox/core/SparseBitSet", name := "set", desc := "(I)V" } : Jvm.MethodName) prog_51_method_4_code (4 : Nat) (Option.none : Option Jvm.ClassFile.FieldType), Jvm.Cond.code ({ cls := "com/example/libtbox/libtbox/core/SparseBitSet", name := "position", desc := "(I)I" } : Jvm.MethodName) prog_51_method_18_code (4 : Nat) (Option.some Jvm.ClassFile.FieldType.int), Jvm.Cond.code ({ cls := "com/example/libtbox/libtbox/core/SparseBitSet", name := "insert", desc := "(II)V" } : Jvm.MethodName) prog_51_method_19_code (3 : Nat) (Option.none : Option Jvm.ClassFile.FieldType), Jvm.Cond.code ({ cls := "com/example/libtbox/libtbox/core/SparseBitSet", name := "grow", desc := "(I)V" } : Jvm.MethodName) prog_51_method_20_code (3 : Nat) (Option.none : Option Jvm.ClassFile.FieldType), Jvm.Cond.code ({ cls := "java/lang/Math", name := "max", desc := "(II)I" } : Jvm.MethodName) jdk_29_method_65_code (2 : Nat) (Option.some Jvm.ClassFile.FieldType.int), Jvm.Cond.code ({ cls := "java/util/Arrays", name := "copyOf", desc := "([II)[I" } : Jvm.MethodName) jdk_65_method_123_code (3 : Nat) (Option.some (Jvm.ClassFile.FieldType.array Jvm.ClassFile.FieldType.int)), Jvm.Cond.code ({ cls := "java/lang/Math", name := "min", desc := "(II)I" } : Jvm.MethodName) jdk_29_method_69_code (2 : Nat) (Option.some Jvm.ClassFile.FieldType.int), Jvm.Cond.code ({ cls := "java/util/Arrays", name := "copyOf", desc := "([JI)[J" } : Jvm.MethodName) jdk_65_method_124_code (3 : Nat) (Option.some (Jvm.ClassFile.FieldType.array Jvm.ClassFile.FieldType.long)), Jvm.Cond.code ({ cls := "com/example/libtbox/libtbox/core/SparseBitSet", name := "addTo", desc := "([J)V" } : Jvm.MethodName) prog_51_method_14_code (3 : Nat) (Option.none : Option Jvm.ClassFile.FieldType), Jvm.Cond.code ({ cls := "com/example/libtbox/libtbox/core/SparseBitSetAddToPinLaw", name := "expect", desc := "(IJIIII)J" } : Jvm.MethodName) method_3_code (9 : Nat) (Option.some Jvm.ClassFile.FieldType.long), Jvm.Cond.code ({ cls := "java/util/Arrays", name := "binarySearch", desc := "([IIII)I" } : Jvm.MethodName) jdk_65_method_58_code (4 : Nat) (Option.some Jvm.ClassFile.FieldType.int), Jvm.Cond.code ({ cls := "java/util/Arrays", name := "rangeCheck", desc := "(III)V" } : Jvm.MethodName) jdk_65_method_30_code (3 : Nat) (Option.none : Option Jvm.ClassFile.FieldType), Jvm.Cond.code ({ cls := "java/util/Arrays", name := "binarySearch0", desc := "([IIII)I" } : Jvm.MethodName) jdk_65_method_59_code (8 : Nat) (Option.some Jvm.ClassFile.FieldType.int)]
set_option maxRecDepth 65536 in
theorem codes_eq : words1.filter isCode = codes1 := rfl
theorem w_codes : ∀ c ∈ words1.filter isCode, c.before args0 about1 = true := by
  rw [codes_eq]
  intro c hc
  simp only [codes1, List.mem_cons, List.not_mem_nil, or_false] at hc
  rcases hc with rfl | rfl | rfl | rfl | rfl | rfl | rfl | rfl | rfl | rfl | rfl | rfl | rfl | rfl | rfl | rfl
  · exact w_c0
  · exact w_c1
  · exact w_c2
  · exact w_c3
  · exact w_c4
  · exact w_c5
  · exact w_c6
  · exact w_c7
  · exact w_c8
  · exact w_c9
  · exact w_c10
  · exact w_c11
  · exact w_c12
  · exact w_c13
  · exact w_c14
  · exact w_c15
set_option maxRecDepth 65536 in
theorem w_t1 : (words1.take 24).all (fun c => isCode c || c.before args0 about1) = true := by decide +kernel
set_option maxRecDepth 65536 in
theorem w_t2 : ((words1.drop 24).take 24).all (fun c => isCode c || c.before args0 about1) = true := by decide +kernel
set_option maxRecDepth 65536 in
theorem w_t3 : (((words1.drop 24).drop 24).take 24).all (fun c => isCode c || c.before args0 about1) = true := by decide +kernel
set_option maxRecDepth 65536 in
theorem w_t4 : (((words1.drop 24).drop 24).drop 24).all (fun c => isCode c || c.before args0 about1) = true := by decide +kernel
theorem w_tables : (allAtoms (Jvm.Cond.code x code maxLocals ret :: tables_1)).before args0 about1 = true := by
  rw [allAtoms_all]
  show words1.all (fun c => c.before args0 about1) = true
  refine all_split ?_ w_codes
  rw [← List.take_append_drop 24 words1, List.all_append, w_t1, ← List.take_append_drop 24 (words1.drop 24), List.all_append, w_t2, ← List.take_append_drop 24 ((words1.drop 24).drop 24), List.all_append, w_t3, w_t4]
  rfl
set_option maxRecDepth 65536 in
theorem w_case : (Jvm.Cond.and given_1 narrow_1).before args0 about1 = true := by decide +kernel
theorem w_applies : (headSpec (Jvm.Cond.code x code maxLocals ret :: tables_1) room_1).applies x e0.platform about1 = true :=
  (Spec.applies_iff w_frames).mpr ⟨w_running, w_runnable, w_alone, w_named, w_hears, w_ripe, w_room, w_tables⟩
theorem atStart : AtStart classFile x code maxLocals ret World_1 tables_1 room_1 Calls_1 rest_1 Pre_1 launch0 p0 e0 about1 theMethod args0 below0 :=
  ⟨lists_1, trivial, launch0.admits_env _ _ _, launch0.least_env, fairChoices_fair.cas, fairChoices_fair.clock, w_frames, w_args, w_heap, w_applies, trivial, trivial, w_case⟩
end start1
theorem witness_1 : WitnessClaimed_1 := ⟨start1.p0, start1.e0, start1.about1, start1.theMethod, start1.args0, start1.below0, start1.atStart⟩
end Jvm.Pilot.@@N@@
