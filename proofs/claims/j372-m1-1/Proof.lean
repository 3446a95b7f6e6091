import JvmDerived
import JvmDerived.Pilot.@@N@@Statement
import JvmDerived.Pilot.@@N@@Code
set_option linter.unusedVariables false
set_option linter.unusedSimpArgs false
namespace Jvm.Pilot.@@N@@
open Jvm Jvm.ClassFile Sem Op Lib Jvm.Free Jvm.Stand Jvm.LawKit Jvm.RoadKit Bundle Jvm.Pilot.@@N@@.Jvm.D
theorem hwi {Z : State} {a0 : Array Value} (hw : ∀ d ∈ tables_1, d.before a0 Z = true) (i : Nat) {d : Jvm.Cond} (h : tables_1[i]? = some d) : d.before a0 Z = true := hw _ (List.mem_of_getElem? h)
section Own
variable {p : Program} {l : Launch} {e : Env} {R : Room} {s : State} {m : MethodId} {args : Array Value} {below : List Frame} {meth : Method} {c : Code} {T : State} {locs : List Loc} {cells slots : Nat} {Z : State} {a0 : Array Value} {h h' : Heap} {Q : Option Value → Heap → List Loc → Prop} {rc rs : Nat} {P : State → Outcome → Prop}
/-- from here the run comes to its end, and what it leaves is P -/
def Ends (p : Program) (e : Env) (below : List Frame) (P : State → Outcome → Prop) (T : State) (g : JFrame) : Prop :=
  ∃ s₂ o, Steps p.tables e below (T.setTop g) s₂ ∧ s₂.status = .running ∧ Ended s₂ below o ∧ P s₂ o
/-- the narrow end -/
def NP (s : State) (Q : Option Value → Heap → List Loc → Prop) (rc rs : Nat) : State → Outcome → Prop := fun s₂ o => ∃ v L, o = .returned v ∧ Q v s₂.heap L ∧ FrameEnd s o s₂ L rc rs
theorem go {T' : State} {g g' : JFrame} (f : ∀ t, Steps p.tables e below (T'.setTop g') t → Steps p.tables e below (T.setTop g) t) (k : Ends p e below P T' g') : Ends p e below P T g := by
  obtain ⟨s₂, o, h1, r⟩ := k
  exact ⟨s₂, o, f _ h1, r⟩
theorem goS {T' : State} {g g' : JFrame} (f : Steps p.tables e below (T.setTop g) (T'.setTop g')) (k : Ends p e below P T' g') : Ends p e below P T g := by
  obtain ⟨s₂, o, h1, r⟩ := k
  exact ⟨s₂, o, f.trans h1, r⟩
/-- the frame is left with v, and what stands then is P -/
def Lv (e : Env) (m : MethodId) (below : List Frame) (T : State) (v : Option Value) (P : State → Outcome → Prop) : Prop :=
  ∃ fs, (∀ (f : JFrame) (acts : List Action), f.method = m → f.locked = none → f.entered = [] → (doReturn e (T.setTop f) acts v).1 = T.setFrames fs) ∧ (T.setFrames fs).status = .running ∧ Ended (T.setFrames fs) below (.returned v) ∧ P (T.setFrames fs) (.returned v)
theorem lvN (X : Stand p l e R s m args below meth c T locs cells slots) (hlk : meth.locks = false) (eT : T.heap = h) {v : Option Value} (hv : meth.sig.returnType = none → v = none) (hq : Q v h locs) (hc : cells ≤ rc) (hs : slots ≤ rs) : Lv e m below T v (NP s Q rc rs) := by
  subst eT
  obtain ⟨fs, hr, hrun, hended, hW, hsame⟩ := X.leave (v := v) hv hlk
  exact ⟨fs, hr, hrun, hended, _, _, rfl, hq, ⟨_, rfl⟩, hW, hsame.mono hc hs⟩
theorem retI (X : Stand p l e R s m args below meth c T locs cells slots) (hx : p.tables.exec = Jvm.exec) {pc : Nat} {Ls : Array Slot} {z : Int32} {rest : List Value} (hret : meth.sig.returnType = some .int) (hd : decode c.code pc = .ok (.ireturn, 1)) {fs : List Frame}
    (hl : ∀ (f : JFrame) (acts : List Action), f.method = m → f.locked = none → f.entered = [] → (doReturn e (T.setTop f) acts (some (.int z))).1 = T.setFrames fs) : Steps p.tables e below (T.setTop (mkF m pc Ls (.int z :: rest))) (T.setFrames fs) := by
  have hm' : T.vm.method? m = some meth := X.method'
  have hn : narrow .int (.int z) = .int z := rfl
  show Steps p.tables e below (T.setTop { method := m, pc := pc, locals := Ls, stack := _ :: rest, locked := none }) _
  jvm_step X.here [X.here.top, hx, hd, hm', hret, hn]
  first | (intro acts; rw [hl _ acts rfl rfl rfl]) | rw [hl _ _ rfl rfl rfl]
  exact Steps.refl _
theorem endI (X : Stand p l e R s m args below meth c T locs cells slots) (hx : p.tables.exec = Jvm.exec) {pc : Nat} {Ls : Array Slot} {z : Int32} {rest : List Value} (hret : meth.sig.returnType = some .int) (hd : decode c.code pc = .ok (.ireturn, 1)) (hL : Lv e m below T (some (.int z)) P) :
    Ends p e below P T (mkF m pc Ls (.int z :: rest)) := by
  obtain ⟨fs, hr, hrun, hended, hp⟩ := hL
  exact ⟨_, _, retI X hx hret hd hr, hrun, hended, hp⟩
/-- a boolean, byte, char or short: what is returned is narrowed -/
theorem endN (X : Stand p l e R s m args below meth c T locs cells slots) (hx : p.tables.exec = Jvm.exec) {pc : Nat} {Ls : Array Slot} {z : Int32} {t : FieldType} {rest : List Value} (hret : meth.sig.returnType = some t) (ht : t = .boolean ∨ t = .byte ∨ t = .char ∨ t = .short) (hd : decode c.code pc = .ok (.ireturn, 1)) (hL : Lv e m below T (some (.int (nar t z))) P) :
    Ends p e below P T (mkF m pc Ls (.int z :: rest)) := by
  obtain ⟨fs, hr, hrun, hended, hp⟩ := hL
  exact ⟨_, _, retN X hx hret ht hd hr, hrun, hended, hp⟩
theorem endA (X : Stand p l e R s m args below meth c T locs cells slots) (hx : p.tables.exec = Jvm.exec) {pc : Nat} {Ls : Array Slot} {w : Value} {t : FieldType} {rest : List Value} (hret : meth.sig.returnType = some t) (ht : t.isReference = true) (hw : w.isRef = true) (hd : decode c.code pc = .ok (.areturn, 1)) (hL : Lv e m below T (some w) P) :
    Ends p e below P T (mkF m pc Ls (w :: rest)) := by
  obtain ⟨fs, hr, hrun, hended, hp⟩ := hL
  have hn : narrow t w = w := by rcases ref_cases hw with rfl | ⟨b, rfl⟩ <;> cases t <;> rfl
  exact ⟨_, _, retOut X hx hret hn (Or.inr (Or.inr (Or.inr (Or.inr ⟨rfl, ht, hw⟩)))) hd hr, hrun, hended, hp⟩
theorem endJ (X : Stand p l e R s m args below meth c T locs cells slots) (hx : p.tables.exec = Jvm.exec) {pc : Nat} {Ls : Array Slot} {z : Int64} {rest : List Value} (hret : meth.sig.returnType = some .long) (hd : decode c.code pc = .ok (.lreturn, 1)) (hL : Lv e m below T (some (.long z)) P) :
    Ends p e below P T (mkF m pc Ls (.long z :: rest)) := by
  obtain ⟨fs, hr, hrun, hended, hp⟩ := hL
  exact ⟨_, _, retOut X hx hret rfl (Or.inr (Or.inl ⟨rfl, rfl, z, rfl⟩)) hd hr, hrun, hended, hp⟩
theorem endV (X : Stand p l e R s m args below meth c T locs cells slots) (hx : p.tables.exec = Jvm.exec) {pc : Nat} {Ls : Array Slot} (hret : meth.sig.returnType = none) (hd : decode c.code pc = .ok (.return_, 1)) (hL : Lv e m below T none P) :
    Ends p e below P T (mkF m pc Ls []) := by
  obtain ⟨fs, hr, hrun, hended, hp⟩ := hL
  exact ⟨_, _, X.returnOut hx hret hd hr, hrun, hended, hp⟩
/-- a method's contract, at one heap and one list of arguments -/
def Con (l : Launch) (y : MethodName) (bytes : ByteArray) (maxL : Nat) (ret : Option FieldType) (rm : Room) (Z : State) (as' : Array Value) (h0 : Heap) (Q : Option Value → Heap → List Loc → Prop) : Prop :=
  ∀ ws, MetFree l y (head1 (Jvm.Cond.code y bytes maxL ret :: ws) rm) (fun a U => a = as' ∧ Z.Warmed39 U.vm ∧ U.heap = h0) (fun _ _ _ _ _ => True) (fun _ U o U' => ∃ v L, o = .returned v ∧ Q v U'.heap L ∧ FrameEnd U o U' L rm.cells rm.slots)
theorem efOf {m : MethodId} {args : Array Value} {n : Nat} {Ls : Array Slot} (h : Jvm.Sym.laidSlots args.toList ++ List.replicate (n - (Jvm.Sym.laidSlots args.toList).length) .unset = Ls.toList) : entryFrame m args n = mkF m 0 Ls [] := by
  have q : argsToLocals args n = Ls := Array.toList_inj.mp (by rw [Jvm.Sym.argsToLocals_toList]; exact h)
  show mkF m 0 (argsToLocals args n) [] = _
  rw [q]
theorem Con.of {y : MethodName} {bytes : ByteArray} {maxL : Nat} {ret : Option FieldType} {rm : Room} {as' : Array Value} {h0 : Heap} (hp : plainFor y = true) {Ls : Array Slot} (hef : ∀ m, entryFrame m as' maxL = mkF m 0 Ls [])
    (body : ∀ {p : Program} {e : Env} {s : State} {m : MethodId} {below : List Frame} {meth : Method} {c : Code} {T : State}, Stand p l e rm s m as' below meth c T [] 0 0 → p.tables.exec = Jvm.exec → Z.Warmed39 s.vm → c.code = bytes → c.maxLocals = maxL → s.vm.findClass y.cls = some m.cls → meth.name = y.name → meth.sig.returnType = ret → meth.locks = false → T.heap = h0 → Ends p e below (NP s Q rm.cells rm.slots) T (mkF m 0 Ls [])) :
    Con l y bytes maxL ret rm Z as' h0 Q := by
  intro ws
  refine MetFree.of_bodySF hp hisR ?_
  intro p e s m args below meth c s₁ Bd hml0 hP hK
  obtain ⟨rfl, hZ, hh⟩ := hP
  have X0 : Stand p l e rm s m _ below meth c s₁ [] 0 0 := Stand.of_body Bd
  have e0 : s₁.heap = h0 := by rw [← hh, Bd.state]; rfl
  obtain ⟨s₂, o, h1, r⟩ := body X0 Bd.exec hZ Bd.bytes hml0 (findClass_of_methodNamed Bd.named) (name_of_methodNamed Bd.named Bd.method).1 Bd.returns Bd.notSynchronized e0
  exact ⟨s₂, o, castTop (hef m) h1, r⟩
theorem cStat {own : String} {index : Nat} {y : MethodName} {bytes : ByteArray} {maxL : Nat} {ret : Option FieldType} {rm : Room} {Q' : Option Value → Heap → List Loc → Prop} {pc : Nat} {Ls : Array Slot} {st : List Value}
    (X : Stand p l e R s m args below meth c T locs cells slots) (hx : p.tables.exec = Jvm.exec) (hZ : Z.Warmed39 s.vm) (hown : s.vm.findClass own = some m.cls) (hml : Ls.size = c.maxLocals) (eT : T.heap = h)
    (w1 : (Cond.methodLink own index y).before a0 Z = true) (w2 : (Cond.static y).before a0 Z = true) (w3 : (Cond.initialized y.cls).before a0 Z = true) (w4 : (Cond.code y bytes maxL ret).before a0 Z = true)
    (argsL rest : List Value) {as' : Array Value} (has : argsL.toArray = as') (hM : Con l y bytes maxL ret rm Z as' h Q') (hd : decode c.code pc = .ok (.invokestatic index, 3)) (hst : st = argsL.reverse ++ rest)
    (hlen : ∀ sig, parseMethodDescriptor y.desc = some sig → argsL.length = sig.parameters.length) (hy : y.cls ≠ "java/lang/invoke/MethodHandle" ∧ y.cls ≠ "java/lang/invoke/VarHandle")
    (hf : rm.frames + 1 ≤ R.frames) (hl : (rest.map fun v => v.category).sum + (maxL + 11) + rm.locals ≤ R.locals) (hc : cells + rm.cells ≤ R.cells) (hs : slots + rm.slots ≤ R.slots)
    (k : ∀ v T' h' L, Stand p l e R s m args below meth c T' (locs ++ L) (cells + rm.cells) (slots + rm.slots) → T'.heap = h' → Q' v h' L → Ends p e below P T' (mkF m (pc + 3) Ls (v.toList ++ rest))) :
    Ends p e below P T (mkF m pc Ls st) := by
  subst has
  obtain ⟨v, _, ⟨T', L', k', n'⟩, -, X', ⟨Lc, hQ, e1, e2, e3⟩, stp⟩ := Jvm.LawKit.callS X hx (y := y) hown (mvT hZ w1) (mvT hZ w2) (mvT hZ w3) (mvT hZ w4) hy (backOf (W := (rest.map fun v => v.category).sum) (hM []) hZ w4 w3 hf hl) (g := mkF m pc Ls st) rfl hml (argsL := argsL) (rest := rest) hlen hst (by show 2 * 0 + _ ≤ _; omega) hd (fun _ _ => ⟨rfl, eT, hc, hs⟩)
  dsimp only [Pt.U, Pt.locs, Pt.cells, Pt.slots] at X' e1 e2 e3 stp hQ
  subst e1 e2 e3
  exact go stp (k v T' _ Lc X' rfl hQ)
theorem cInit {own : String} {index : Nat} {y : MethodName} {bytes : ByteArray} {maxL : Nat} {rm : Room} {Q' : Option Value → Heap → List Loc → Prop} {pc : Nat} {Ls : Array Slot} {st : List Value}
    (X : Stand p l e R s m args below meth c T locs cells slots) (hx : p.tables.exec = Jvm.exec) (hZ : Z.Warmed39 s.vm) (hown : s.vm.findClass own = some m.cls) (hml : Ls.size = c.maxLocals) (eT : T.heap = h)
    (w1 : (Cond.methodLink own index y).before a0 Z = true) (w2 : (Cond.instanceMethod y).before a0 Z = true) (w3 : (Cond.initialized y.cls).before a0 Z = true) (w4 : (Cond.code y bytes maxL none).before a0 Z = true)
    (a : Addr) (argsL rest : List Value) {as' : Array Value} (has : (.ref a :: argsL).toArray = as') (hM : Con l y bytes maxL none rm Z as' h Q') (hd : decode c.code pc = .ok (.invokespecial index, 3)) (hst : st = argsL.reverse ++ .ref a :: rest)
    (hlen : ∀ sig, parseMethodDescriptor y.desc = some sig → argsL.length = sig.parameters.length) (hy1 : y.name = "<init>") (hy : y.cls ≠ "java/lang/invoke/MethodHandle" ∧ y.cls ≠ "java/lang/invoke/VarHandle")
    (hf : rm.frames + 1 ≤ R.frames) (hl : (rest.map fun v => v.category).sum + (maxL + 11) + rm.locals ≤ R.locals) (hc : cells + rm.cells ≤ R.cells) (hs : slots + rm.slots ≤ R.slots)
    (k : ∀ v T' h' L, Stand p l e R s m args below meth c T' (locs ++ L) (cells + rm.cells) (slots + rm.slots) → T'.heap = h' → Q' v h' L → Ends p e below P T' (mkF m (pc + 3) Ls (v.toList ++ rest))) :
    Ends p e below P T (mkF m pc Ls st) := by
  subst has
  obtain ⟨v, _, ⟨T', L', k', n'⟩, -, X', ⟨Lc, hQ, e1, e2, e3⟩, stp⟩ := X.specialBack hx (y := y) hy1 hown (mvT hZ w1) (mvT hZ w2) (mvT hZ w4) hy (backOf (W := (rest.map fun v => v.category).sum) (hM []) hZ w4 w3 hf hl) (g := mkF m pc Ls st) rfl hml (Steps.refl _) (a := a) (argsL := argsL) (rest := rest) hlen hst (by show 2 * 0 + _ ≤ _; omega) hd (fun _ _ => ⟨rfl, eT, hc, hs⟩)
  dsimp only [Pt.U, Pt.locs, Pt.cells, Pt.slots] at X' e1 e2 e3 stp hQ
  subst e1 e2 e3
  exact goS stp (k v T' _ Lc X' rfl hQ)
theorem cVirt {own K : String} {index : Nat} {y z : MethodName} {bytes : ByteArray} {maxL : Nat} {ret : Option FieldType} {rm : Room} {Q' : Option Value → Heap → List Loc → Prop} {pc : Nat} {Ls : Array Slot} {st : List Value}
    (X : Stand p l e R s m args below meth c T locs cells slots) (hx : p.tables.exec = Jvm.exec) (hZ : Z.Warmed39 s.vm) (hown : s.vm.findClass own = some m.cls) (hml : Ls.size = c.maxLocals) (eT : T.heap = h)
    (w1 : (Cond.methodLink own index y).before a0 Z = true) (w2 : (Cond.declares y).before a0 Z = true) (w3 : (Cond.selects K y z).before a0 Z = true) (w4 : (Cond.instanceMethod z).before a0 Z = true) (w5 : (Cond.initialized z.cls).before a0 Z = true) (w6 : (Cond.code z bytes maxL ret).before a0 Z = true) (hnf : NotFace s y)
    (a : Addr) (E : Exa Z h a K) (argsL rest : List Value) {as' : Array Value} (has : (.ref a :: argsL).toArray = as') (hM : Con l z bytes maxL ret rm Z as' h Q') (hd : decode c.code pc = .ok (.invokevirtual index, 3)) (hst : st = argsL.reverse ++ .ref a :: rest)
    (hlen : ∀ sig, parseMethodDescriptor y.desc = some sig → argsL.length = sig.parameters.length) (hy : y.cls ≠ "java/lang/invoke/MethodHandle" ∧ y.cls ≠ "java/lang/invoke/VarHandle")
    (hf : rm.frames + 1 ≤ R.frames) (hl : (rest.map fun v => v.category).sum + (maxL + 11) + rm.locals ≤ R.locals) (hc : cells + rm.cells ≤ R.cells) (hs : slots + rm.slots ≤ R.slots)
    (k : ∀ v T' h' L, Stand p l e R s m args below meth c T' (locs ++ L) (cells + rm.cells) (slots + rm.slots) → T'.heap = h' → Q' v h' L → Ends p e below P T' (mkF m (pc + 3) Ls (v.toList ++ rest))) :
    Ends p e below P T (mkF m pc Ls st) := by
  subst has
  obtain ⟨cq, kq, qa, qb, qc⟩ := isOf hZ eT E
  obtain ⟨v, _, ⟨T', L', k', n'⟩, -, X', ⟨Lc, hQ, e1, e2, e3⟩, stp⟩ := X.virtualBack hx (y := y) (z := z) hown (mvT hZ w1) (mvT hZ w2) hnf (mvT hZ w3) (mvT hZ w4) hy (backOf (W := (rest.map fun v => v.category).sum) (hM []) hZ w6 w5 hf hl) qa qc (g := mkF m pc Ls st) rfl hml (Steps.refl _) (argsL := argsL) (rest := rest) hlen hst (by show 2 * 0 + _ ≤ _; omega) hd (fun _ _ => ⟨rfl, eT, hc, hs⟩)
  dsimp only [Pt.U, Pt.locs, Pt.cells, Pt.slots] at X' e1 e2 e3 stp hQ
  subst e1 e2 e3
  exact goS stp (k v T' _ Lc X' rfl hQ)
theorem cFace {own K : String} {index count : Nat} {y z : MethodName} {bytes : ByteArray} {maxL : Nat} {ret : Option FieldType} {rm : Room} {Q' : Option Value → Heap → List Loc → Prop} {pc : Nat} {Ls : Array Slot} {st : List Value}
    (X : Stand p l e R s m args below meth c T locs cells slots) (hx : p.tables.exec = Jvm.exec) (hZ : Z.Warmed39 s.vm) (hown : s.vm.findClass own = some m.cls) (hml : Ls.size = c.maxLocals) (eT : T.heap = h)
    (w1 : (Cond.methodLink own index y).before a0 Z = true) (w2 : (Cond.declares y).before a0 Z = true) (wf : (Cond.interfaceMethod y.cls y.cls y.name y.desc).before args s = true) (w3 : (Cond.selects K y z).before a0 Z = true) (w4 : (Cond.instanceMethod z).before a0 Z = true) (wp : (Cond.publicMethod z).before a0 Z = true) (wu : (Cond.unhidden K y.name y.desc).before args s = true) (wc : (Cond.castable K y.cls).before a0 Z = true) (w5 : (Cond.initialized z.cls).before a0 Z = true) (w6 : (Cond.code z bytes maxL ret).before a0 Z = true)
    (a : Addr) (E : Exa Z h a K) (argsL rest : List Value) {as' : Array Value} (has : (.ref a :: argsL).toArray = as') (hM : Con l z bytes maxL ret rm Z as' h Q') (hd : decode c.code pc = .ok (.invokeinterface index count, 5)) (hst : st = argsL.reverse ++ .ref a :: rest)
    (hlen : ∀ sig, parseMethodDescriptor y.desc = some sig → argsL.length = sig.parameters.length) (hy : y.cls ≠ "java/lang/invoke/MethodHandle" ∧ y.cls ≠ "java/lang/invoke/VarHandle")
    (hf : rm.frames + 1 ≤ R.frames) (hl : (rest.map fun v => v.category).sum + (maxL + 11) + rm.locals ≤ R.locals) (hc : cells + rm.cells ≤ R.cells) (hs : slots + rm.slots ≤ R.slots)
    (k : ∀ v T' h' L, Stand p l e R s m args below meth c T' (locs ++ L) (cells + rm.cells) (slots + rm.slots) → T'.heap = h' → Q' v h' L → Ends p e below P T' (mkF m (pc + 5) Ls (v.toList ++ rest))) :
    Ends p e below P T (mkF m pc Ls st) := by
  subst has
  obtain ⟨cq, kq, qa, qb, qc⟩ := isOf hZ eT E
  obtain ⟨v, _, ⟨T', L', k', n'⟩, -, X', ⟨Lc, hQ, e1, e2, e3⟩, stp⟩ := X.interfaceBack hx (xi := y) (y := z) hown (mvT hZ w1) (mvT hZ w2) wf (mvT hZ w3) (mvT hZ w4) (mvT hZ wp) wu (mvT hZ wc) hy (backOf (W := (rest.map fun v => v.category).sum) (hM []) hZ w6 w5 hf hl) qa qb qc (g := mkF m pc Ls st) rfl hml (Steps.refl _) (argsL := argsL) (rest := rest) hlen hst (by show 2 * 0 + _ ≤ _; omega) hd (fun _ _ => ⟨rfl, eT, hc, hs⟩)
  dsimp only [Pt.U, Pt.locs, Pt.cells, Pt.slots] at X' e1 e2 e3 stp hQ
  subst e1 e2 e3
  exact goS stp (k v T' _ Lc X' rfl hQ)
theorem cPriv {own K : String} {index nn : Nat} {y : MethodName} {bytes : ByteArray} {maxL : Nat} {ret : Option FieldType} {rm : Room} {Q' : Option Value → Heap → List Loc → Prop} {pc : Nat} {Ls : Array Slot} {st : List Value}
    (X : Stand p l e R s m args below meth c T locs cells slots) (hx : p.tables.exec = Jvm.exec) (hZ : Z.Warmed39 s.vm) (hown : s.vm.findClass own = some m.cls) (hml : Ls.size = c.maxLocals) (eT : T.heap = h)
    (w1 : (Cond.methodLink own index y).before a0 Z = true) (w2 : (Cond.instanceMethod y).before a0 Z = true) (w3 : (Cond.privateMethod y).before a0 Z = true) (w4 : (Cond.instantiable y.cls nn).before a0 Z = true) (w5 : (Cond.initialized y.cls).before a0 Z = true) (w6 : (Cond.code y bytes maxL ret).before a0 Z = true)
    (a : Addr) (E : Exa Z h a K) (argsL rest : List Value) {as' : Array Value} (has : (.ref a :: argsL).toArray = as') (hM : Con l y bytes maxL ret rm Z as' h Q') (hd : decode c.code pc = .ok (.invokevirtual index, 3)) (hst : st = argsL.reverse ++ .ref a :: rest)
    (hlen : ∀ sig, parseMethodDescriptor y.desc = some sig → argsL.length = sig.parameters.length) (hy : y.cls ≠ "java/lang/invoke/MethodHandle" ∧ y.cls ≠ "java/lang/invoke/VarHandle")
    (hf : rm.frames + 1 ≤ R.frames) (hl : (rest.map fun v => v.category).sum + (maxL + 11) + rm.locals ≤ R.locals) (hc : cells + rm.cells ≤ R.cells) (hs : slots + rm.slots ≤ R.slots)
    (k : ∀ v T' h' L, Stand p l e R s m args below meth c T' (locs ++ L) (cells + rm.cells) (slots + rm.slots) → T'.heap = h' → Q' v h' L → Ends p e below P T' (mkF m (pc + 3) Ls (v.toList ++ rest))) :
    Ends p e below P T (mkF m pc Ls st) := by
  subst has
  obtain ⟨cell, q1, q2⟩ := E.cell
  have hpr := Cond.privateMethod_at (mvP hZ w3 (args := #[]))
  obtain ⟨cc, kc, i1, i2, -, i4, -⟩ := Cond.instantiable_spec (mvT (args := args) hZ w4)
  have hni : kc.isInterface = false := by
    cases hq : kc.isInterface with
    | false => rfl
    | true => rw [hq] at i4; simp at i4
  have hsel := Jvm.Stand.selects_self_of_private (args := args) i1 i2 hni hpr (mvT hZ w2) hy
  obtain ⟨v, _, ⟨T', L', k', n'⟩, -, X', ⟨Lc, hQ, e1, e2, e3⟩, stp⟩ := X.privateBack hx (y := y) hown (mvT hZ w1) (mvT hZ w2) hsel hpr (mvT hZ w6) hy (backOf (W := (rest.map fun v => v.category).sum) (hM []) hZ w6 w5 hf hl) (g := mkF m pc Ls st) rfl hml (Steps.refl _) (a := a) (by rw [eT]; exact q1) q2 (argsL := argsL) (rest := rest) hlen hst (by show 2 * 0 + _ ≤ _; omega) hd (fun _ _ => ⟨rfl, eT, hc, hs⟩)
  dsimp only [Pt.U, Pt.locs, Pt.cells, Pt.slots] at X' e1 e2 e3 stp hQ
  subst e1 e2 e3
  exact goS stp (k v T' _ Lc X' rfl hQ)
theorem xx (O : Ext Z.heap h) (E : Ext h h') : Ext Z.heap h' := ⟨Nat.le_trans O.1 E.1, fun a c q => E.2 _ _ (O.2 _ _ q)⟩
theorem xk {ws : List Addr} (O : Ext Z.heap h) (K : Keep h h' ws) (q : ∀ x ∈ ws, Z.heap.size ≤ x) : Ext Z.heap h' := (Old.keep ⟨rfl, O⟩ K q).2
theorem xw {a : Addr} {sl : Nat} {v : Value} (O : Ext Z.heap h) (W : Wr h h' a sl v) (q : Z.heap.size ≤ a) : Ext Z.heap h' := (Old.wr ⟨rfl, O⟩ W q).2
theorem ke (E : Ext h h') : Keep h h' [] := (Keep.refl h []).ext E
theorem ek (K : Keep h h' []) : Ext h h' := ⟨K.1, fun a c q => K.2.1 a c q nin0⟩
end Own
section OwnW
variable {p : Program} {l : Launch} {e : Env} {R : Room} {s : State} {m : MethodId} {args : Array Value} {below : List Frame} {meth : Method} {c : Code} {T : State} {locs : List Loc} {cells slots : Nat} {Z : State} {a0 : Array Value} {h h' : Heap} {Q : Option Value → Heap → List Loc → Prop} {rc rs : Nat} {P : State → Outcome → Prop} {vm0 : Vm} {EL : List (String × Nat)} {k0 : Nat}
/-- the wide end: literals may have been interned -/
def WP (s : State) (Z : State) (EL : List (String × Nat)) (Q : Option Value → Heap → List Loc → Prop) (rc rs : Nat) : State → Outcome → Prop := fun s₂ o => ∃ v L, o = .returned v ∧ Q v s₂.heap L ∧ CHr Z EL s.vm s.heap s₂.vm s₂.heap ∧ ReturnedEndW s o s₂ L rc rs
theorem lvW (X : Stand p l e R (s.setVm vm0) m args below meth c T locs cells slots) (hlk : meth.locks = false) (hZ : Z.Warmed39 vm0) (hEL : EW Z a0 EL) (hs0 : s.heap = h') (hS : s.Since vm0 k0) (hk : k0 ≤ h.size) (H : CHr Z EL s.vm h' vm0 h) (eT : T.heap = h) {v : Option Value} (hv : meth.sig.returnType = none → v = none) (hq : Q v h locs) (hc : cells ≤ rc) (hs : slots ≤ rs) : Lv e m below T v (WP s Z EL Q rc rs) := by
  subst eT
  obtain ⟨fs, hr, hrun, hended, hv', hW, hb, hsame⟩ := Jvm.Stand.leaveW X hS hk (v := v) hv hlk
  refine ⟨fs, hr, hrun, hended, _, _, rfl, hq, ?_, hv', hW, hb, hsame.mono hc hs⟩
  rw [hs0]
  show CHr Z EL s.vm h' T.vm T.heap
  exact H.trans (CHv.at X hZ hEL H.1)
def ConW (l : Launch) (y : MethodName) (bytes : ByteArray) (maxL : Nat) (ret : Option FieldType) (rm : Room) (Z : State) (EL : List (String × Nat)) (as' : Array Value) (h0 : Heap) (Q : Option Value → Heap → List Loc → Prop) : Prop :=
  ∀ ws, MetFree l y (head1 (Jvm.Cond.code y bytes maxL ret :: ws) rm) (fun a U => a = as' ∧ Z.Warmed39 U.vm ∧ U.heap = h0 ∧ CHv Z EL U.vm h0) (fun _ _ _ _ _ => True) (fun _ U o U' => ∃ v L, o = .returned v ∧ Q v U'.heap L ∧ CHr Z EL U.vm U.heap U'.vm U'.heap ∧ ReturnedEndW U o U' L rm.cells rm.slots)
theorem ConW.of {y : MethodName} {bytes : ByteArray} {maxL : Nat} {ret : Option FieldType} {rm : Room} {as' : Array Value} {h0 : Heap} (hp : plainFor y = true) {Ls : Array Slot} (hef : ∀ m, entryFrame m as' maxL = mkF m 0 Ls [])
    (body : ∀ {p : Program} {e : Env} {s : State} {m : MethodId} {below : List Frame} {meth : Method} {c : Code} {T : State}, Stand p l e rm (s.setVm s.vm) m as' below meth c T [] 0 0 → p.tables.exec = Jvm.exec → Z.Warmed39 s.vm → c.code = bytes → c.maxLocals = maxL → s.vm.findClass y.cls = some m.cls → meth.name = y.name → meth.sig.returnType = ret → meth.locks = false → T.heap = h0 → s.heap = h0 → s.Since s.vm 0 → 0 ≤ h0.size → CHr Z EL s.vm h0 s.vm h0 → Ends p e below (WP s Z EL Q rm.cells rm.slots) T (mkF m 0 Ls [])) :
    ConW l y bytes maxL ret rm Z EL as' h0 Q := by
  intro ws
  refine MetFree.of_bodySF hp hisR ?_
  intro p e s m args below meth c s₁ Bd hml0 hP hK
  obtain ⟨rfl, hZ, hh, hC⟩ := hP
  have X0 : Stand p l e rm s m _ below meth c s₁ [] 0 0 := Stand.of_body Bd
  have e0 : s₁.heap = h0 := by rw [← hh, Bd.state]; rfl
  obtain ⟨s₂, o, h1, r⟩ := body (s := s) X0 Bd.exec hZ Bd.bytes hml0 (findClass_of_methodNamed Bd.named) (name_of_methodNamed Bd.named Bd.method).1 Bd.returns Bd.notSynchronized e0 hh ((State.WarmedH.refl s).since 0) (Nat.zero_le _) (CHr.refl hC)
  exact ⟨s₂, o, castTop (hef m) h1, r⟩
theorem cStatW {own : String} {index : Nat} {y : MethodName} {bytes : ByteArray} {maxL : Nat} {ret : Option FieldType} {rm : Room} {Q' : Option Value → Heap → List Loc → Prop} {pc : Nat} {Ls : Array Slot} {st : List Value}
    (X : Stand p l e R (s.setVm vm0) m args below meth c T locs cells slots) (hx : p.tables.exec = Jvm.exec) (hZ : Z.Warmed39 vm0) (hown : vm0.findClass own = some m.cls) (hml : Ls.size = c.maxLocals) (eT : T.heap = h) (hEL : EW Z a0 EL) (hS : s.Since vm0 k0) (hk : k0 ≤ h.size) (H : CHv Z EL vm0 h)
    (w1 : (Cond.methodLink own index y).before a0 Z = true) (w2 : (Cond.static y).before a0 Z = true) (w3 : (Cond.initialized y.cls).before a0 Z = true) (w4 : (Cond.code y bytes maxL ret).before a0 Z = true)
    (argsL rest : List Value) {as' : Array Value} (has : argsL.toArray = as') (hM : ConW l y bytes maxL ret rm Z EL as' h Q') (hd : decode c.code pc = .ok (.invokestatic index, 3)) (hst : st = argsL.reverse ++ rest)
    (hlen : ∀ sig, parseMethodDescriptor y.desc = some sig → argsL.length = sig.parameters.length) (hy : y.cls ≠ "java/lang/invoke/MethodHandle" ∧ y.cls ≠ "java/lang/invoke/VarHandle")
    (hf : rm.frames + 1 ≤ R.frames) (hl : (rest.map fun v => v.category).sum + (maxL + 11) + rm.locals ≤ R.locals) (hc : cells + rm.cells ≤ R.cells) (hs : slots + rm.slots ≤ R.slots)
    (k : ∀ v T' h' L k1, Stand p l e R (s.setVm T'.vm) m args below meth c T' (locs ++ L) (cells + rm.cells) (slots + rm.slots) → T'.heap = h' → s.Since T'.vm k1 → k1 ≤ h'.size → Z.Warmed39 T'.vm → T'.vm.findClass own = some m.cls → CHr Z EL vm0 h T'.vm h' → Q' v h' L → Ends p e below P T' (mkF m (pc + 3) Ls (v.toList ++ rest))) :
    Ends p e below P T (mkF m pc Ls st) := by
  subst has
  obtain ⟨v, vm1, ⟨T', L', k', n'⟩, -, X', hS', hle, ⟨Lc, hQ, e1, e2, e3, hC⟩, stp⟩ := callSS X hx (y := y) hown (mvT (s := s.setVm vm0) hZ w1) (mvT (s := s.setVm vm0) hZ w2) (mvT (s := s.setVm vm0) hZ w3) (mvT (s := s.setVm vm0) hZ w4) hy (backOfSH (s := s) (W := (rest.map fun v => v.category).sum) (hM []) hZ w4 w3 hf hl hEL H) (g := mkF m pc Ls st) rfl hml (argsL := argsL) (rest := rest) hlen hst (by show 2 * 0 + _ ≤ _; omega) hd (fun _ _ => ⟨rfl, eT, hc, hs⟩)
  dsimp only [Pt.U, Pt.locs, Pt.cells, Pt.slots] at X' e1 e2 e3 stp hQ hS' hle hC
  subst e1 e2 e3
  have hS2 := hS.trans hS' (Nat.le_trans hk (by rw [← eT]; exact hle))
  have hW : Z.Warmed39 T'.vm := State.Warmed39.trans (t := s.setVm vm0) hZ hS'.1
  have hf' : T'.vm.findClass own = some m.cls := by rw [hS'.1.alike.findClass]; exact hown
  exact goS stp (k v T' _ Lc _ X' rfl hS2 (Nat.le_refl _) hW hf' hC hQ)
theorem cInitW {own : String} {index : Nat} {y : MethodName} {bytes : ByteArray} {maxL : Nat} {rm : Room} {Q' : Option Value → Heap → List Loc → Prop} {pc : Nat} {Ls : Array Slot} {st : List Value}
    (X : Stand p l e R (s.setVm vm0) m args below meth c T locs cells slots) (hx : p.tables.exec = Jvm.exec) (hZ : Z.Warmed39 vm0) (hown : vm0.findClass own = some m.cls) (hml : Ls.size = c.maxLocals) (eT : T.heap = h) (hEL : EW Z a0 EL) (hS : s.Since vm0 k0) (hk : k0 ≤ h.size) (H : CHv Z EL vm0 h)
    (w1 : (Cond.methodLink own index y).before a0 Z = true) (w2 : (Cond.instanceMethod y).before a0 Z = true) (w3 : (Cond.initialized y.cls).before a0 Z = true) (w4 : (Cond.code y bytes maxL none).before a0 Z = true)
    (a : Addr) (argsL rest : List Value) {as' : Array Value} (has : (.ref a :: argsL).toArray = as') (hM : ConW l y bytes maxL none rm Z EL as' h Q') (hd : decode c.code pc = .ok (.invokespecial index, 3)) (hst : st = argsL.reverse ++ .ref a :: rest)
    (hlen : ∀ sig, parseMethodDescriptor y.desc = some sig → argsL.length = sig.parameters.length) (hy1 : y.name = "<init>") (hy : y.cls ≠ "java/lang/invoke/MethodHandle" ∧ y.cls ≠ "java/lang/invoke/VarHandle")
    (hf : rm.frames + 1 ≤ R.frames) (hl : (rest.map fun v => v.category).sum + (maxL + 11) + rm.locals ≤ R.locals) (hc : cells + rm.cells ≤ R.cells) (hs : slots + rm.slots ≤ R.slots)
    (k : ∀ v T' h' L k1, Stand p l e R (s.setVm T'.vm) m args below meth c T' (locs ++ L) (cells + rm.cells) (slots + rm.slots) → T'.heap = h' → s.Since T'.vm k1 → k1 ≤ h'.size → Z.Warmed39 T'.vm → T'.vm.findClass own = some m.cls → CHr Z EL vm0 h T'.vm h' → Q' v h' L → Ends p e below P T' (mkF m (pc + 3) Ls (v.toList ++ rest))) :
    Ends p e below P T (mkF m pc Ls st) := by
  subst has
  obtain ⟨v, vm1, ⟨T', L', k', n'⟩, -, X', hS', hle, ⟨Lc, hQ, e1, e2, e3, hC⟩, stp⟩ := Jvm.Stand.specialBackS X hx (y := y) hy1 hown (mvT (s := s.setVm vm0) hZ w1) (mvT (s := s.setVm vm0) hZ w2) (mvT (s := s.setVm vm0) hZ w4) hy (backOfSH (s := s) (W := (rest.map fun v => v.category).sum) (hM []) hZ w4 w3 hf hl hEL H) (g := mkF m pc Ls st) rfl hml (Steps.refl _) (a := a) (argsL := argsL) (rest := rest) hlen hst (by show 2 * 0 + _ ≤ _; omega) hd (fun _ _ => ⟨rfl, eT, hc, hs⟩)
  dsimp only [Pt.U, Pt.locs, Pt.cells, Pt.slots] at X' e1 e2 e3 stp hQ hS' hle hC
  subst e1 e2 e3
  have hS2 := hS.trans hS' (Nat.le_trans hk (by rw [← eT]; exact hle))
  have hW : Z.Warmed39 T'.vm := State.Warmed39.trans (t := s.setVm vm0) hZ hS'.1
  have hf' : T'.vm.findClass own = some m.cls := by rw [hS'.1.alike.findClass]; exact hown
  exact goS stp (k v T' _ Lc _ X' rfl hS2 (Nat.le_refl _) hW hf' hC hQ)
theorem cVirtW {own K : String} {index : Nat} {y z : MethodName} {bytes : ByteArray} {maxL : Nat} {ret : Option FieldType} {rm : Room} {Q' : Option Value → Heap → List Loc → Prop} {pc : Nat} {Ls : Array Slot} {st : List Value}
    (X : Stand p l e R (s.setVm vm0) m args below meth c T locs cells slots) (hx : p.tables.exec = Jvm.exec) (hZ : Z.Warmed39 vm0) (hown : vm0.findClass own = some m.cls) (hml : Ls.size = c.maxLocals) (eT : T.heap = h) (hEL : EW Z a0 EL) (hS : s.Since vm0 k0) (hk : k0 ≤ h.size) (H : CHv Z EL vm0 h)
    (w1 : (Cond.methodLink own index y).before a0 Z = true) (w2 : (Cond.declares y).before a0 Z = true) (w3 : (Cond.selects K y z).before a0 Z = true) (w4 : (Cond.instanceMethod z).before a0 Z = true) (w5 : (Cond.initialized z.cls).before a0 Z = true) (w6 : (Cond.code z bytes maxL ret).before a0 Z = true) (hnf : NotFace (s.setVm vm0) y)
    (a : Addr) (E : Exa Z h a K) (argsL rest : List Value) {as' : Array Value} (has : (.ref a :: argsL).toArray = as') (hM : ConW l z bytes maxL ret rm Z EL as' h Q') (hd : decode c.code pc = .ok (.invokevirtual index, 3)) (hst : st = argsL.reverse ++ .ref a :: rest)
    (hlen : ∀ sig, parseMethodDescriptor y.desc = some sig → argsL.length = sig.parameters.length) (hy : y.cls ≠ "java/lang/invoke/MethodHandle" ∧ y.cls ≠ "java/lang/invoke/VarHandle")
    (hf : rm.frames + 1 ≤ R.frames) (hl : (rest.map fun v => v.category).sum + (maxL + 11) + rm.locals ≤ R.locals) (hc : cells + rm.cells ≤ R.cells) (hs : slots + rm.slots ≤ R.slots)
    (k : ∀ v T' h' L k1, Stand p l e R (s.setVm T'.vm) m args below meth c T' (locs ++ L) (cells + rm.cells) (slots + rm.slots) → T'.heap = h' → s.Since T'.vm k1 → k1 ≤ h'.size → Z.Warmed39 T'.vm → T'.vm.findClass own = some m.cls → CHr Z EL vm0 h T'.vm h' → Q' v h' L → Ends p e below P T' (mkF m (pc + 3) Ls (v.toList ++ rest))) :
    Ends p e below P T (mkF m pc Ls st) := by
  subst has
  obtain ⟨cq, kq, qa, qb, qc⟩ := isOf (s := s.setVm vm0) hZ eT E
  obtain ⟨v, vm1, ⟨T', L', k', n'⟩, -, X', hS', hle, ⟨Lc, hQ, e1, e2, e3, hC⟩, stp⟩ := Jvm.Stand.virtualBackS X hx (y := y) (z := z) hown (mvT (s := s.setVm vm0) hZ w1) (mvT (s := s.setVm vm0) hZ w2) hnf (mvT (s := s.setVm vm0) hZ w3) (mvT (s := s.setVm vm0) hZ w4) hy (backOfSH (s := s) (W := (rest.map fun v => v.category).sum) (hM []) hZ w6 w5 hf hl hEL H) qa qc (g := mkF m pc Ls st) rfl hml (Steps.refl _) (argsL := argsL) (rest := rest) hlen hst (by show 2 * 0 + _ ≤ _; omega) hd (fun _ _ => ⟨rfl, eT, hc, hs⟩)
  dsimp only [Pt.U, Pt.locs, Pt.cells, Pt.slots] at X' e1 e2 e3 stp hQ hS' hle hC
  subst e1 e2 e3
  have hS2 := hS.trans hS' (Nat.le_trans hk (by rw [← eT]; exact hle))
  have hW : Z.Warmed39 T'.vm := State.Warmed39.trans (t := s.setVm vm0) hZ hS'.1
  have hf' : T'.vm.findClass own = some m.cls := by rw [hS'.1.alike.findClass]; exact hown
  exact goS stp (k v T' _ Lc _ X' rfl hS2 (Nat.le_refl _) hW hf' hC hQ)
theorem cFaceW {own K : String} {index count : Nat} {y z : MethodName} {bytes : ByteArray} {maxL : Nat} {ret : Option FieldType} {rm : Room} {Q' : Option Value → Heap → List Loc → Prop} {pc : Nat} {Ls : Array Slot} {st : List Value}
    (X : Stand p l e R (s.setVm vm0) m args below meth c T locs cells slots) (hx : p.tables.exec = Jvm.exec) (hZ : Z.Warmed39 vm0) (hown : vm0.findClass own = some m.cls) (hml : Ls.size = c.maxLocals) (eT : T.heap = h) (hEL : EW Z a0 EL) (hS : s.Since vm0 k0) (hk : k0 ≤ h.size) (H : CHv Z EL vm0 h)
    (w1 : (Cond.methodLink own index y).before a0 Z = true) (w2 : (Cond.declares y).before a0 Z = true) (wf : (Cond.interfaceMethod y.cls y.cls y.name y.desc).before args (s.setVm vm0) = true) (w3 : (Cond.selects K y z).before a0 Z = true) (w4 : (Cond.instanceMethod z).before a0 Z = true) (wp : (Cond.publicMethod z).before a0 Z = true) (wu : (Cond.unhidden K y.name y.desc).before args (s.setVm vm0) = true) (wc : (Cond.castable K y.cls).before a0 Z = true) (w5 : (Cond.initialized z.cls).before a0 Z = true) (w6 : (Cond.code z bytes maxL ret).before a0 Z = true)
    (a : Addr) (E : Exa Z h a K) (argsL rest : List Value) {as' : Array Value} (has : (.ref a :: argsL).toArray = as') (hM : ConW l z bytes maxL ret rm Z EL as' h Q') (hd : decode c.code pc = .ok (.invokeinterface index count, 5)) (hst : st = argsL.reverse ++ .ref a :: rest)
    (hlen : ∀ sig, parseMethodDescriptor y.desc = some sig → argsL.length = sig.parameters.length) (hy : y.cls ≠ "java/lang/invoke/MethodHandle" ∧ y.cls ≠ "java/lang/invoke/VarHandle")
    (hf : rm.frames + 1 ≤ R.frames) (hl : (rest.map fun v => v.category).sum + (maxL + 11) + rm.locals ≤ R.locals) (hc : cells + rm.cells ≤ R.cells) (hs : slots + rm.slots ≤ R.slots)
    (k : ∀ v T' h' L k1, Stand p l e R (s.setVm T'.vm) m args below meth c T' (locs ++ L) (cells + rm.cells) (slots + rm.slots) → T'.heap = h' → s.Since T'.vm k1 → k1 ≤ h'.size → Z.Warmed39 T'.vm → T'.vm.findClass own = some m.cls → CHr Z EL vm0 h T'.vm h' → Q' v h' L → Ends p e below P T' (mkF m (pc + 5) Ls (v.toList ++ rest))) :
    Ends p e below P T (mkF m pc Ls st) := by
  subst has
  obtain ⟨cq, kq, qa, qb, qc⟩ := isOf (s := s.setVm vm0) hZ eT E
  obtain ⟨v, vm1, ⟨T', L', k', n'⟩, -, X', hS', hle, ⟨Lc, hQ, e1, e2, e3, hC⟩, stp⟩ := Jvm.Stand.interfaceBackS X hx (xi := y) (y := z) hown (mvT (s := s.setVm vm0) hZ w1) (mvT (s := s.setVm vm0) hZ w2) wf (mvT (s := s.setVm vm0) hZ w3) (mvT (s := s.setVm vm0) hZ w4) (mvT (s := s.setVm vm0) hZ wp) wu (mvT (s := s.setVm vm0) hZ wc) hy (backOfSH (s := s) (W := (rest.map fun v => v.category).sum) (hM []) hZ w6 w5 hf hl hEL H) qa qb qc (g := mkF m pc Ls st) rfl hml (Steps.refl _) (argsL := argsL) (rest := rest) hlen hst (by show 2 * 0 + _ ≤ _; omega) hd (fun _ _ => ⟨rfl, eT, hc, hs⟩)
  dsimp only [Pt.U, Pt.locs, Pt.cells, Pt.slots] at X' e1 e2 e3 stp hQ hS' hle hC
  subst e1 e2 e3
  have hS2 := hS.trans hS' (Nat.le_trans hk (by rw [← eT]; exact hle))
  have hW : Z.Warmed39 T'.vm := State.Warmed39.trans (t := s.setVm vm0) hZ hS'.1
  have hf' : T'.vm.findClass own = some m.cls := by rw [hS'.1.alike.findClass]; exact hown
  exact goS stp (k v T' _ Lc _ X' rfl hS2 (Nat.le_refl _) hW hf' hC hQ)
end OwnW
theorem own_sfnull {Z : State} {EL : List (String × Nat)} {vm : Vm} {h : Heap} {x : Addr} (hal : Z.vm.Alike vm) (E : Exa Z h x "java/lang/String") (F : Fld Z h x "java/lang/String" "value" "[B" .null) : Safe Z EL vm h x := fun B => by
  obtain ⟨cell, k, e1, e2, e3, -, -⟩ := E
  obtain ⟨p, -, u, a, -, q, -, G, rfl | rfl⟩ := B
  · obtain ⟨cell', cf, kf, i, f, f1, f2, f3, f4, f5, f6, f7⟩ := F
    obtain ⟨cS, ⟨⟨s1, -, -, ⟨c, kc, ic, g1, -⟩, -, -, -, s8, -⟩, -, -⟩, -⟩ := G
    obtain ⟨c2, k2, i2, g2⟩ := Jvm.Free.BdW.found_ride (U := Wst Z vm h) (U' := Z) (show (Wst Z vm h).vm.Alike Z.vm from hal.symm) ⟨c, kc, ic, g1⟩
    have q1 := f2.symm.trans g2
    simp only [Option.some.injEq, Prod.mk.injEq] at q1
    obtain ⟨-, -, -, rfl⟩ := q1
    cases (show h[q.sa]? = some q.sC from s1).symm.trans f1
    rw [s8] at f7
    cases f7
  · cases (show h[q.sd]? = some q.SA from G.hd).symm.trans e1
    obtain ⟨cS, -, -, f, -⟩ := G
    have f : vm.findClass "[B" = some q.SA.cls := f
    rw [hal.findClass] at f
    obtain ⟨k1, q1, q2⟩ := Vm.findClass_spec f
    obtain ⟨k2, q3, q4⟩ := Vm.findClass_spec e2
    cases q1.symm.trans q3
    exact absurd (q2.symm.trans q4) (by decide)
theorem pn_0 : plainName "java/lang/String" = true := by first | (simp [plainName, overriddenIn]; done) | decide +kernel
theorem d0_0 : decode jdk_42_method_149_code 0 = .ok (.aload_n 0, 1) := by decide +kernel
theorem d0_1 : decode jdk_42_method_149_code 1 = .ok (.invokespecial 1, 3) := by decide +kernel
theorem d0_4 : decode jdk_42_method_149_code 4 = .ok (.iload_n 3, 1) := by decide +kernel
theorem d0_5 : decode jdk_42_method_149_code 5 = .ok (.ifCond .ne 22, 3) := by decide +kernel
theorem d0_8 : decode jdk_42_method_149_code 8 = .ok (.aload_n 0, 1) := by decide +kernel
theorem d0_9 : decode jdk_42_method_149_code 9 = .ok (.ldc 7, 2) := by decide +kernel
theorem d0_11 : decode jdk_42_method_149_code 11 = .ok (.getfield 9, 3) := by decide +kernel
theorem d0_14 : decode jdk_42_method_149_code 14 = .ok (.putfield 9, 3) := by decide +kernel
theorem d0_17 : decode jdk_42_method_149_code 17 = .ok (.aload_n 0, 1) := by decide +kernel
theorem d0_18 : decode jdk_42_method_149_code 18 = .ok (.ldc 7, 2) := by decide +kernel
theorem d0_20 : decode jdk_42_method_149_code 20 = .ok (.getfield 15, 3) := by decide +kernel
theorem d0_23 : decode jdk_42_method_149_code 23 = .ok (.putfield 15, 3) := by decide +kernel
theorem d0_26 : decode jdk_42_method_149_code 26 = .ok (.return_, 1) := by decide +kernel
theorem d1_0 : decode jdk_42_method_3_code 0 = .ok (.aload_n 0, 1) := by decide +kernel
theorem d1_1 : decode jdk_42_method_3_code 1 = .ok (.aload_n 1, 1) := by decide +kernel
theorem d1_2 : decode jdk_42_method_3_code 2 = .ok (.iconst 0, 1) := by decide +kernel
theorem d1_3 : decode jdk_42_method_3_code 3 = .ok (.aload_n 1, 1) := by decide +kernel
theorem d1_4 : decode jdk_42_method_3_code 4 = .ok (.arraylength, 1) := by decide +kernel
theorem d1_5 : decode jdk_42_method_3_code 5 = .ok (.aconst_null, 1) := by decide +kernel
theorem d1_6 : decode jdk_42_method_3_code 6 = .ok (.invokespecial 27, 3) := by decide +kernel
theorem pd_1 : parseMethodDescriptor "([CIILjava/lang/Void;)V" = some ⟨[(.array .char), .int, .int, (.object "java/lang/Void")], none⟩ := by decide +kernel
theorem d1_9 : decode jdk_42_method_3_code 9 = .ok (.return_, 1) := by decide +kernel
theorem pn_2 : plainName "java/lang/StringUTF16" = true := by first | (simp [plainName, overriddenIn]; done) | decide +kernel
theorem d2_0 : decode jdk_52_method_21_code 0 = .ok (.iconst 0, 1) := by decide +kernel
theorem d2_1 : decode jdk_52_method_21_code 1 = .ok (.istore 5, 2) := by decide +kernel
theorem d2_3 : decode jdk_52_method_21_code 3 = .ok (.iload 5, 2) := by decide +kernel
theorem d2_5 : decode jdk_52_method_21_code 5 = .ok (.iload 4, 2) := by decide +kernel
theorem d2_7 : decode jdk_52_method_21_code 7 = .ok (.if_icmp .ge 37, 3) := by decide +kernel
theorem d2_10 : decode jdk_52_method_21_code 10 = .ok (.aload_n 0, 1) := by decide +kernel
theorem d2_11 : decode jdk_52_method_21_code 11 = .ok (.iload_n 1, 1) := by decide +kernel
theorem d2_12 : decode jdk_52_method_21_code 12 = .ok (.caload, 1) := by decide +kernel
theorem d2_13 : decode jdk_52_method_21_code 13 = .ok (.istore 6, 2) := by decide +kernel
theorem d2_15 : decode jdk_52_method_21_code 15 = .ok (.iload 6, 2) := by decide +kernel
theorem d2_17 : decode jdk_52_method_21_code 17 = .ok (.sipush 255, 3) := by decide +kernel
theorem d2_20 : decode jdk_52_method_21_code 20 = .ok (.if_icmp .le 6, 3) := by decide +kernel
theorem d2_26 : decode jdk_52_method_21_code 26 = .ok (.aload_n 2, 1) := by decide +kernel
theorem d2_27 : decode jdk_52_method_21_code 27 = .ok (.iload_n 3, 1) := by decide +kernel
theorem d2_28 : decode jdk_52_method_21_code 28 = .ok (.iload 6, 2) := by decide +kernel
theorem d2_30 : decode jdk_52_method_21_code 30 = .ok (.i2b, 1) := by decide +kernel
theorem d2_31 : decode jdk_52_method_21_code 31 = .ok (.bastore, 1) := by decide +kernel
theorem d2_32 : decode jdk_52_method_21_code 32 = .ok (.iinc 1 1, 3) := by decide +kernel
theorem d2_35 : decode jdk_52_method_21_code 35 = .ok (.iinc 3 1, 3) := by decide +kernel
theorem d2_38 : decode jdk_52_method_21_code 38 = .ok (.iinc 5 1, 3) := by decide +kernel
theorem d2_41 : decode jdk_52_method_21_code 41 = .ok (.goto (-38), 3) := by decide +kernel
theorem d2_44 : decode jdk_52_method_21_code 44 = .ok (.iload 4, 2) := by decide +kernel
theorem d2_46 : decode jdk_52_method_21_code 46 = .ok (.ireturn, 1) := by decide +kernel
theorem d3_0 : decode jdk_52_method_16_code 0 = .ok (.iload_n 2, 1) := by decide +kernel
theorem d3_1 : decode jdk_52_method_16_code 1 = .ok (.newarray .byte, 2) := by decide +kernel
theorem d3_3 : decode jdk_52_method_16_code 3 = .ok (.astore_n 3, 1) := by decide +kernel
theorem d3_4 : decode jdk_52_method_16_code 4 = .ok (.aload_n 0, 1) := by decide +kernel
theorem d3_5 : decode jdk_52_method_16_code 5 = .ok (.iload_n 1, 1) := by decide +kernel
theorem d3_6 : decode jdk_52_method_16_code 6 = .ok (.aload_n 3, 1) := by decide +kernel
theorem d3_7 : decode jdk_52_method_16_code 7 = .ok (.iconst 0, 1) := by decide +kernel
theorem d3_8 : decode jdk_52_method_16_code 8 = .ok (.iload_n 2, 1) := by decide +kernel
theorem d3_9 : decode jdk_52_method_16_code 9 = .ok (.invokestatic 115, 3) := by decide +kernel
theorem pd_3 : parseMethodDescriptor "([CI[BII)I" = some ⟨[(.array .char), .int, (.array .byte), .int, .int], some .int⟩ := by decide +kernel
theorem d3_12 : decode jdk_52_method_16_code 12 = .ok (.istore 4, 2) := by decide +kernel
theorem d3_14 : decode jdk_52_method_16_code 14 = .ok (.iload 4, 2) := by decide +kernel
theorem d3_16 : decode jdk_52_method_16_code 16 = .ok (.iload_n 2, 1) := by decide +kernel
theorem d3_17 : decode jdk_52_method_16_code 17 = .ok (.if_icmp .eq 40, 3) := by decide +kernel
theorem d3_57 : decode jdk_52_method_16_code 57 = .ok (.aload_n 3, 1) := by decide +kernel
theorem d3_58 : decode jdk_52_method_16_code 58 = .ok (.areturn, 1) := by decide +kernel
theorem d4_0 : decode jdk_52_method_15_code 0 = .ok (.iload_n 1, 1) := by decide +kernel
theorem d4_1 : decode jdk_52_method_15_code 1 = .ok (.aload_n 0, 1) := by decide +kernel
theorem d4_2 : decode jdk_52_method_15_code 2 = .ok (.arraylength, 1) := by decide +kernel
theorem d4_3 : decode jdk_52_method_15_code 3 = .ok (.isub, 1) := by decide +kernel
theorem d4_4 : decode jdk_52_method_15_code 4 = .ok (.bipush 31, 2) := by decide +kernel
theorem d4_6 : decode jdk_52_method_15_code 6 = .ok (.iushr, 1) := by decide +kernel
theorem d4_7 : decode jdk_52_method_15_code 7 = .ok (.i2b, 1) := by decide +kernel
theorem d4_8 : decode jdk_52_method_15_code 8 = .ok (.ireturn, 1) := by decide +kernel
theorem d0_27 : decode jdk_42_method_149_code 27 = .ok (.getstatic 38, 3) := by decide +kernel
theorem d0_30 : decode jdk_42_method_149_code 30 = .ok (.ifCond .eq 28, 3) := by decide +kernel
theorem d0_33 : decode jdk_42_method_149_code 33 = .ok (.aload_n 1, 1) := by decide +kernel
theorem d0_34 : decode jdk_42_method_149_code 34 = .ok (.iload_n 2, 1) := by decide +kernel
theorem d0_35 : decode jdk_42_method_149_code 35 = .ok (.iload_n 3, 1) := by decide +kernel
theorem d0_36 : decode jdk_42_method_149_code 36 = .ok (.invokestatic 177, 3) := by decide +kernel
theorem pd_4 : parseMethodDescriptor "([CII)[B" = some ⟨[(.array .char), .int, .int], some (.array .byte)⟩ := by decide +kernel
theorem d0_39 : decode jdk_42_method_149_code 39 = .ok (.astore 5, 2) := by decide +kernel
theorem d0_41 : decode jdk_42_method_149_code 41 = .ok (.aload_n 0, 1) := by decide +kernel
theorem d0_42 : decode jdk_42_method_149_code 42 = .ok (.aload 5, 2) := by decide +kernel
theorem d0_44 : decode jdk_42_method_149_code 44 = .ok (.iload_n 3, 1) := by decide +kernel
theorem d0_45 : decode jdk_42_method_149_code 45 = .ok (.invokestatic 47, 3) := by decide +kernel
theorem pd_5 : parseMethodDescriptor "([BI)B" = some ⟨[(.array .byte), .int], some .byte⟩ := by decide +kernel
theorem d0_48 : decode jdk_42_method_149_code 48 = .ok (.putfield 15, 3) := by decide +kernel
theorem d0_51 : decode jdk_42_method_149_code 51 = .ok (.aload_n 0, 1) := by decide +kernel
theorem d0_52 : decode jdk_42_method_149_code 52 = .ok (.aload 5, 2) := by decide +kernel
theorem d0_54 : decode jdk_42_method_149_code 54 = .ok (.putfield 9, 3) := by decide +kernel
theorem d0_57 : decode jdk_42_method_149_code 57 = .ok (.return_, 1) := by decide +kernel
theorem pn_6 : plainName "java/lang/StringLatin1" = true := by first | (simp [plainName, overriddenIn]; done) | decide +kernel
theorem d5_0 : decode jdk_43_method_3_code 0 = .ok (.iload_n 0, 1) := by decide +kernel
theorem d5_1 : decode jdk_43_method_3_code 1 = .ok (.sipush 255, 3) := by decide +kernel
theorem d5_4 : decode jdk_43_method_3_code 4 = .ok (.if_icmp .gt 7, 3) := by decide +kernel
theorem d5_7 : decode jdk_43_method_3_code 7 = .ok (.iconst 1, 1) := by decide +kernel
theorem d5_8 : decode jdk_43_method_3_code 8 = .ok (.goto 4, 3) := by decide +kernel
theorem d5_12 : decode jdk_43_method_3_code 12 = .ok (.ireturn, 1) := by decide +kernel
theorem d6_0 : decode jdk_43_method_46_code 0 = .ok (.iconst 1, 1) := by decide +kernel
theorem d6_1 : decode jdk_43_method_46_code 1 = .ok (.newarray .byte, 2) := by decide +kernel
theorem d6_3 : decode jdk_43_method_46_code 3 = .ok (.dup, 1) := by decide +kernel
theorem d6_4 : decode jdk_43_method_46_code 4 = .ok (.iconst 0, 1) := by decide +kernel
theorem d6_5 : decode jdk_43_method_46_code 5 = .ok (.iload_n 0, 1) := by decide +kernel
theorem d6_6 : decode jdk_43_method_46_code 6 = .ok (.i2b, 1) := by decide +kernel
theorem d6_7 : decode jdk_43_method_46_code 7 = .ok (.bastore, 1) := by decide +kernel
theorem d6_8 : decode jdk_43_method_46_code 8 = .ok (.areturn, 1) := by decide +kernel
theorem d7_0 : decode jdk_42_method_151_code 0 = .ok (.aload_n 0, 1) := by decide +kernel
theorem d7_1 : decode jdk_42_method_151_code 1 = .ok (.invokespecial 1, 3) := by decide +kernel
theorem d7_4 : decode jdk_42_method_151_code 4 = .ok (.aload_n 0, 1) := by decide +kernel
theorem d7_5 : decode jdk_42_method_151_code 5 = .ok (.aload_n 1, 1) := by decide +kernel
theorem d7_6 : decode jdk_42_method_151_code 6 = .ok (.putfield 9, 3) := by decide +kernel
theorem d7_9 : decode jdk_42_method_151_code 9 = .ok (.aload_n 0, 1) := by decide +kernel
theorem d7_10 : decode jdk_42_method_151_code 10 = .ok (.iload_n 2, 1) := by decide +kernel
theorem d7_11 : decode jdk_42_method_151_code 11 = .ok (.putfield 15, 3) := by decide +kernel
theorem d7_14 : decode jdk_42_method_151_code 14 = .ok (.return_, 1) := by decide +kernel
theorem d8_0 : decode jdk_42_method_139_code 0 = .ok (.getstatic 38, 3) := by decide +kernel
theorem d8_3 : decode jdk_42_method_139_code 3 = .ok (.ifCond .eq 23, 3) := by decide +kernel
theorem d8_6 : decode jdk_42_method_139_code 6 = .ok (.iload_n 0, 1) := by decide +kernel
theorem d8_7 : decode jdk_42_method_139_code 7 = .ok (.invokestatic 1015, 3) := by decide +kernel
theorem pd_7 : parseMethodDescriptor "(C)Z" = some ⟨[.char], some .boolean⟩ := by decide +kernel
theorem d8_10 : decode jdk_42_method_139_code 10 = .ok (.ifCond .eq 16, 3) := by decide +kernel
theorem d8_13 : decode jdk_42_method_139_code 13 = .ok (.new 10, 3) := by decide +kernel
theorem d8_16 : decode jdk_42_method_139_code 16 = .ok (.dup, 1) := by decide +kernel
theorem d8_17 : decode jdk_42_method_139_code 17 = .ok (.iload_n 0, 1) := by decide +kernel
theorem d8_18 : decode jdk_42_method_139_code 18 = .ok (.invokestatic 1018, 3) := by decide +kernel
theorem pd_8 : parseMethodDescriptor "(C)[B" = some ⟨[.char], some (.array .byte)⟩ := by decide +kernel
theorem d8_21 : decode jdk_42_method_139_code 21 = .ok (.iconst 0, 1) := by decide +kernel
theorem d8_22 : decode jdk_42_method_139_code 22 = .ok (.invokespecial 209, 3) := by decide +kernel
theorem pd_9 : parseMethodDescriptor "([BB)V" = some ⟨[(.array .byte), .byte], none⟩ := by decide +kernel
theorem d8_25 : decode jdk_42_method_139_code 25 = .ok (.areturn, 1) := by decide +kernel
theorem pn_10 : plainName "java/lang/Number" = true := by first | (simp [plainName, overriddenIn]; done) | decide +kernel
theorem d9_0 : decode jdk_18_method_1_code 0 = .ok (.aload_n 0, 1) := by decide +kernel
theorem d9_1 : decode jdk_18_method_1_code 1 = .ok (.invokespecial 1, 3) := by decide +kernel
theorem d9_4 : decode jdk_18_method_1_code 4 = .ok (.return_, 1) := by decide +kernel
theorem pn_11 : plainName "java/lang/Integer" = true := by first | (simp [plainName, overriddenIn]; done) | decide +kernel
theorem d10_0 : decode jdk_33_method_23_code 0 = .ok (.aload_n 0, 1) := by decide +kernel
theorem d10_1 : decode jdk_33_method_23_code 1 = .ok (.invokespecial 202, 3) := by decide +kernel
theorem pd_12 : parseMethodDescriptor "()V" = some ⟨[], none⟩ := by decide +kernel
theorem d10_4 : decode jdk_33_method_23_code 4 = .ok (.aload_n 0, 1) := by decide +kernel
theorem d10_5 : decode jdk_33_method_23_code 5 = .ok (.iload_n 1, 1) := by decide +kernel
theorem d10_6 : decode jdk_33_method_23_code 6 = .ok (.putfield 205, 3) := by decide +kernel
theorem d10_9 : decode jdk_33_method_23_code 9 = .ok (.return_, 1) := by decide +kernel
theorem d11_0 : decode jdk_33_method_22_code 0 = .ok (.iload_n 0, 1) := by decide +kernel
theorem d11_1 : decode jdk_33_method_22_code 1 = .ok (.bipush (-128), 2) := by decide +kernel
theorem d11_3 : decode jdk_33_method_22_code 3 = .ok (.if_icmp .lt 20, 3) := by decide +kernel
theorem d11_23 : decode jdk_33_method_22_code 23 = .ok (.new 1, 3) := by decide +kernel
theorem d11_26 : decode jdk_33_method_22_code 26 = .ok (.dup, 1) := by decide +kernel
theorem d11_27 : decode jdk_33_method_22_code 27 = .ok (.iload_n 0, 1) := by decide +kernel
theorem d11_28 : decode jdk_33_method_22_code 28 = .ok (.invokespecial 199, 3) := by decide +kernel
theorem pd_13 : parseMethodDescriptor "(I)V" = some ⟨[.int], none⟩ := by decide +kernel
theorem d11_31 : decode jdk_33_method_22_code 31 = .ok (.areturn, 1) := by decide +kernel
theorem d11_6 : decode jdk_33_method_22_code 6 = .ok (.iload_n 0, 1) := by decide +kernel
theorem d11_7 : decode jdk_33_method_22_code 7 = .ok (.getstatic 191, 3) := by decide +kernel
theorem d11_10 : decode jdk_33_method_22_code 10 = .ok (.if_icmp .gt 13, 3) := by decide +kernel
theorem d11_13 : decode jdk_33_method_22_code 13 = .ok (.getstatic 195, 3) := by decide +kernel
theorem d11_16 : decode jdk_33_method_22_code 16 = .ok (.iload_n 0, 1) := by decide +kernel
theorem d11_17 : decode jdk_33_method_22_code 17 = .ok (.sipush 128, 3) := by decide +kernel
theorem d11_20 : decode jdk_33_method_22_code 20 = .ok (.iadd, 1) := by decide +kernel
theorem d11_21 : decode jdk_33_method_22_code 21 = .ok (.aaload, 1) := by decide +kernel
theorem d11_22 : decode jdk_33_method_22_code 22 = .ok (.areturn, 1) := by decide +kernel
theorem pn_14 : plainName "java/util/Objects" = true := by first | (simp [plainName, overriddenIn]; done) | decide +kernel
theorem d12_0 : decode jdk_31_method_10_code 0 = .ok (.aload_n 0, 1) := by decide +kernel
theorem d12_1 : decode jdk_31_method_10_code 1 = .ok (.ifnonnull 11, 3) := by decide +kernel
theorem d12_12 : decode jdk_31_method_10_code 12 = .ok (.aload_n 0, 1) := by decide +kernel
theorem d12_13 : decode jdk_31_method_10_code 13 = .ok (.areturn, 1) := by decide +kernel
theorem pn_15 : plainName "com/example/durable_state/durablestate/io/MarkedValue" = true := by first | (simp [plainName, overriddenIn]; done) | decide +kernel
theorem d13_0 : decode prog_10_method_1_code 0 = .ok (.aload_n 0, 1) := by decide +kernel
theorem d13_1 : decode prog_10_method_1_code 1 = .ok (.invokespecial 1, 3) := by decide +kernel
theorem d13_4 : decode prog_10_method_1_code 4 = .ok (.aload_n 0, 1) := by decide +kernel
theorem d13_5 : decode prog_10_method_1_code 5 = .ok (.aload_n 1, 1) := by decide +kernel
theorem d13_6 : decode prog_10_method_1_code 6 = .ok (.invokestatic 7, 3) := by decide +kernel
theorem pd_16 : parseMethodDescriptor "(Ljava/lang/Object;)Ljava/lang/Object;" = some ⟨[(.object "java/lang/Object")], some (.object "java/lang/Object")⟩ := by decide +kernel
theorem d13_9 : decode prog_10_method_1_code 9 = .ok (.checkcast 13, 3) := by decide +kernel
theorem d13_12 : decode prog_10_method_1_code 12 = .ok (.putfield 15, 3) := by decide +kernel
theorem d13_15 : decode prog_10_method_1_code 15 = .ok (.aload_n 0, 1) := by decide +kernel
theorem d13_16 : decode prog_10_method_1_code 16 = .ok (.aload_n 2, 1) := by decide +kernel
theorem d13_17 : decode prog_10_method_1_code 17 = .ok (.putfield 21, 3) := by decide +kernel
theorem d13_20 : decode prog_10_method_1_code 20 = .ok (.return_, 1) := by decide +kernel
theorem d14_0 : decode prog_10_method_3_code 0 = .ok (.aload_n 0, 1) := by decide +kernel
theorem d14_1 : decode prog_10_method_3_code 1 = .ok (.instanceof 16, 3) := by decide +kernel
theorem d14_4 : decode prog_10_method_3_code 4 = .ok (.ifCond .eq 13, 3) := by decide +kernel
theorem d14_17 : decode prog_10_method_3_code 17 = .ok (.aconst_null, 1) := by decide +kernel
theorem d14_18 : decode prog_10_method_3_code 18 = .ok (.areturn, 1) := by decide +kernel
theorem d14_7 : decode prog_10_method_3_code 7 = .ok (.aload_n 0, 1) := by decide +kernel
theorem d14_8 : decode prog_10_method_3_code 8 = .ok (.checkcast 16, 3) := by decide +kernel
theorem d14_11 : decode prog_10_method_3_code 11 = .ok (.getfield 15, 3) := by decide +kernel
theorem d14_14 : decode prog_10_method_3_code 14 = .ok (.goto 4, 3) := by decide +kernel
theorem d15_0 : decode jdk_42_method_66_code 0 = .ok (.aload_n 0, 1) := by decide +kernel
theorem d15_1 : decode jdk_42_method_66_code 1 = .ok (.aload_n 1, 1) := by decide +kernel
theorem d15_2 : decode jdk_42_method_66_code 2 = .ok (.if_acmp .ne 5, 3) := by decide +kernel
theorem d15_5 : decode jdk_42_method_66_code 5 = .ok (.iconst 1, 1) := by decide +kernel
theorem d15_6 : decode jdk_42_method_66_code 6 = .ok (.ireturn, 1) := by decide +kernel
theorem pn_17 : plainName "com/example/durable_state/durablestate/io/MarkedValueMarkOfPinLaw" = true := by first | (simp [plainName, overriddenIn]; done) | decide +kernel
theorem d16_0 : decode method_2_code 0 = .ok (.iload_n 1, 1) := by decide +kernel
theorem d16_1 : decode method_2_code 1 = .ok (.sipush 255, 3) := by decide +kernel
theorem d16_4 : decode method_2_code 4 = .ok (.iand, 1) := by decide +kernel
theorem d16_5 : decode method_2_code 5 = .ok (.i2c, 1) := by decide +kernel
theorem d16_6 : decode method_2_code 6 = .ok (.istore 4, 2) := by decide +kernel
theorem d16_8 : decode method_2_code 8 = .ok (.iload_n 2, 1) := by decide +kernel
theorem d16_9 : decode method_2_code 9 = .ok (.sipush 255, 3) := by decide +kernel
theorem d16_12 : decode method_2_code 12 = .ok (.iand, 1) := by decide +kernel
theorem d16_13 : decode method_2_code 13 = .ok (.i2c, 1) := by decide +kernel
theorem d16_14 : decode method_2_code 14 = .ok (.istore 5, 2) := by decide +kernel
theorem d16_16 : decode method_2_code 16 = .ok (.iload_n 3, 1) := by decide +kernel
theorem d16_17 : decode method_2_code 17 = .ok (.sipush 255, 3) := by decide +kernel
theorem d16_20 : decode method_2_code 20 = .ok (.iand, 1) := by decide +kernel
theorem d16_21 : decode method_2_code 21 = .ok (.i2c, 1) := by decide +kernel
theorem d16_22 : decode method_2_code 22 = .ok (.istore 6, 2) := by decide +kernel
theorem d16_24 : decode method_2_code 24 = .ok (.iload_n 0, 1) := by decide +kernel
theorem d16_25 : decode method_2_code 25 = .ok (.ifCond .ne 14, 3) := by decide +kernel
theorem d16_28 : decode method_2_code 28 = .ok (.new 7, 3) := by decide +kernel
theorem d16_31 : decode method_2_code 31 = .ok (.dup, 1) := by decide +kernel
theorem d16_32 : decode method_2_code 32 = .ok (.iconst 0, 1) := by decide +kernel
theorem d16_33 : decode method_2_code 33 = .ok (.newarray .char, 2) := by decide +kernel
theorem d16_35 : decode method_2_code 35 = .ok (.invokespecial 9, 3) := by decide +kernel
theorem pd_18 : parseMethodDescriptor "([C)V" = some ⟨[(.array .char)], none⟩ := by decide +kernel
theorem d16_38 : decode method_2_code 38 = .ok (.areturn, 1) := by decide +kernel
theorem d16_39 : decode method_2_code 39 = .ok (.iload_n 0, 1) := by decide +kernel
theorem d16_40 : decode method_2_code 40 = .ok (.iconst 1, 1) := by decide +kernel
theorem d16_41 : decode method_2_code 41 = .ok (.if_icmp .ne 19, 3) := by decide +kernel
theorem d16_44 : decode method_2_code 44 = .ok (.new 7, 3) := by decide +kernel
theorem d16_47 : decode method_2_code 47 = .ok (.dup, 1) := by decide +kernel
theorem d16_48 : decode method_2_code 48 = .ok (.iconst 1, 1) := by decide +kernel
theorem d16_49 : decode method_2_code 49 = .ok (.newarray .char, 2) := by decide +kernel
theorem d16_51 : decode method_2_code 51 = .ok (.dup, 1) := by decide +kernel
theorem d16_52 : decode method_2_code 52 = .ok (.iconst 0, 1) := by decide +kernel
theorem d16_53 : decode method_2_code 53 = .ok (.iload 4, 2) := by decide +kernel
theorem d16_55 : decode method_2_code 55 = .ok (.castore, 1) := by decide +kernel
theorem d16_56 : decode method_2_code 56 = .ok (.invokespecial 9, 3) := by decide +kernel
theorem d16_59 : decode method_2_code 59 = .ok (.areturn, 1) := by decide +kernel
theorem d16_60 : decode method_2_code 60 = .ok (.iload_n 0, 1) := by decide +kernel
theorem d16_61 : decode method_2_code 61 = .ok (.iconst 2, 1) := by decide +kernel
theorem d16_62 : decode method_2_code 62 = .ok (.if_icmp .ne 24, 3) := by decide +kernel
theorem d16_65 : decode method_2_code 65 = .ok (.new 7, 3) := by decide +kernel
theorem d16_68 : decode method_2_code 68 = .ok (.dup, 1) := by decide +kernel
theorem d16_69 : decode method_2_code 69 = .ok (.iconst 2, 1) := by decide +kernel
theorem d16_70 : decode method_2_code 70 = .ok (.newarray .char, 2) := by decide +kernel
theorem d16_72 : decode method_2_code 72 = .ok (.dup, 1) := by decide +kernel
theorem d16_73 : decode method_2_code 73 = .ok (.iconst 0, 1) := by decide +kernel
theorem d16_74 : decode method_2_code 74 = .ok (.iload 4, 2) := by decide +kernel
theorem d16_76 : decode method_2_code 76 = .ok (.castore, 1) := by decide +kernel
theorem d16_77 : decode method_2_code 77 = .ok (.dup, 1) := by decide +kernel
theorem d16_78 : decode method_2_code 78 = .ok (.iconst 1, 1) := by decide +kernel
theorem d16_79 : decode method_2_code 79 = .ok (.iload 5, 2) := by decide +kernel
theorem d16_81 : decode method_2_code 81 = .ok (.castore, 1) := by decide +kernel
theorem d16_82 : decode method_2_code 82 = .ok (.invokespecial 9, 3) := by decide +kernel
theorem d16_85 : decode method_2_code 85 = .ok (.areturn, 1) := by decide +kernel
theorem d16_86 : decode method_2_code 86 = .ok (.new 7, 3) := by decide +kernel
theorem d16_89 : decode method_2_code 89 = .ok (.dup, 1) := by decide +kernel
theorem d16_90 : decode method_2_code 90 = .ok (.iconst 3, 1) := by decide +kernel
theorem d16_91 : decode method_2_code 91 = .ok (.newarray .char, 2) := by decide +kernel
theorem d16_93 : decode method_2_code 93 = .ok (.dup, 1) := by decide +kernel
theorem d16_94 : decode method_2_code 94 = .ok (.iconst 0, 1) := by decide +kernel
theorem d16_95 : decode method_2_code 95 = .ok (.iload 4, 2) := by decide +kernel
theorem d16_97 : decode method_2_code 97 = .ok (.castore, 1) := by decide +kernel
theorem d16_98 : decode method_2_code 98 = .ok (.dup, 1) := by decide +kernel
theorem d16_99 : decode method_2_code 99 = .ok (.iconst 1, 1) := by decide +kernel
theorem d16_100 : decode method_2_code 100 = .ok (.iload 5, 2) := by decide +kernel
theorem d16_102 : decode method_2_code 102 = .ok (.castore, 1) := by decide +kernel
theorem d16_103 : decode method_2_code 103 = .ok (.dup, 1) := by decide +kernel
theorem d16_104 : decode method_2_code 104 = .ok (.iconst 2, 1) := by decide +kernel
theorem d16_105 : decode method_2_code 105 = .ok (.iload 6, 2) := by decide +kernel
theorem d16_107 : decode method_2_code 107 = .ok (.castore, 1) := by decide +kernel
theorem d16_108 : decode method_2_code 108 = .ok (.invokespecial 9, 3) := by decide +kernel
theorem d16_111 : decode method_2_code 111 = .ok (.areturn, 1) := by decide +kernel
theorem pd_19 : parseMethodDescriptor "(IIII)Ljava/lang/String;" = some ⟨[.int, .int, .int, .int], some (.object "java/lang/String")⟩ := by decide +kernel
theorem pd_20 : parseMethodDescriptor "(Ljava/lang/String;Ljava/lang/Object;)V" = some ⟨[(.object "java/lang/String"), (.object "java/lang/Object")], none⟩ := by decide +kernel
theorem pd_21 : parseMethodDescriptor "(Ljava/lang/Object;)Ljava/lang/String;" = some ⟨[(.object "java/lang/Object")], some (.object "java/lang/String")⟩ := by decide +kernel
theorem pd_22 : parseMethodDescriptor "(Ljava/lang/Object;)Z" = some ⟨[(.object "java/lang/Object")], some .boolean⟩ := by decide +kernel
theorem pd_23 : parseMethodDescriptor "(I)Ljava/lang/Integer;" = some ⟨[.int], some (.object "java/lang/Integer")⟩ := by decide +kernel
theorem pd_24 : parseMethodDescriptor "(C)Ljava/lang/String;" = some ⟨[.char], some (.object "java/lang/String")⟩ := by decide +kernel
def own_EL : List (String × Nat) := [("java/lang/String", 7)]
theorem own_EW {Z : State} {a0 : Array Value} (hw : ∀ d ∈ tables_1, d.before a0 Z = true) : EW Z a0 own_EL := (EW.cons (hwi hw 34 rfl) (by decide) EW.nil)
theorem own_SA0 : ∀ d ∈ Jvm.Bundle.stringAtoms, d ∈ tables_1 := by decide +kernel
theorem own_SA {Z : State} {a0 : Array Value} (hw : ∀ d ∈ tables_1, d.before a0 Z = true) : ∀ d ∈ Jvm.Bundle.stringAtoms, d.before a0 Z = true := fun d hd => hw d (own_SA0 d hd)
theorem own_nsroot {Z : State} {a0 : Array Value} {O K : String} {n : Nat} (w : (Jvm.Cond.noSuperclass O).before a0 Z = true) (wk : (Jvm.Cond.instantiable K n).before a0 Z = true) (hn : O ≠ K) : NS Z O K := by
  obtain ⟨c, k, h1, h2, h3, -, -⟩ := Cond.noSuperclass_spec w
  obtain ⟨t, kt, g1, -⟩ := Cond.instantiable_spec wk
  have ne := ids_ne h1 g1 hn
  refine ⟨c, t, h1, g1, fun fuel => ?_⟩
  cases fuel with
  | zero => rfl
  | succ f => simp [Vm.isSubclassAux, ne, h2, h3]
theorem own_nsno {Z : State} {a0 : Array Value} {C S K : String} {n : Nat} (w : (Jvm.Cond.superclass C S).before a0 Z = true) (wk : (Jvm.Cond.instantiable K n).before a0 Z = true) (ns : NS Z C K) (hn : C ≠ K) : ∃ c t, Z.vm.findClass C = some c ∧ Z.vm.findClass K = some t ∧ Z.vm.assignable c t = false := by
  obtain ⟨c, t, h0, g0, n3⟩ := ns
  obtain ⟨p, k, kp, h1, h2, h3, h4, h5, -, h7⟩ := Cond.superclass_spec h0 w
  obtain ⟨t', kt, g1, g2, g3, g4, -⟩ := Cond.instantiable_spec wk
  cases g0.symm.trans g1
  have g5 : kt.isInterface = false := by
    cases hq : kt.isInterface with
    | false => rfl
    | true => rw [hq] at g4; simp at g4
  have ne := ids_ne h0 g0 hn
  refine ⟨c, t, h0, g0, ?_⟩
  show Z.vm.assignableAux (255 + 1) c t = false
  simp [Vm.assignableAux, ne, h2, g2, h5, g3, g5, Vm.isSubclass, n3]
theorem own_len {args : Array Value} {Z : State} {t : Term} {a : Addr} {cl : Cell} {ty : FieldType} {z : Int32} (ht : t.eval args Z none [] Z = some (.ref a)) (A : Arr Z Z.heap a cl ty) (e : (Term.length t).eval args Z none [] Z = some (.int z)) : cl.slots.size < 2 ^ 31 ∧ cl.slots.size.toInt32 = z := by
  have hA := A.fin (Vm.Alike.refl _)
  by_cases hn : cl.slots.size < 2 ^ 31
  · exact ⟨hn, Value.int.inj (Option.some.inj ((len_f ht hA hn).symm.trans e))⟩
  · exfalso
    simp [Term.eval, ht, hA, hn] at e
theorem own_idx {args : Array Value} {Z : State} {j : Int32} (hj : ¬ j < 0) : (Term.sub (.index 0) (.int 128)).eval args Z none [j.toNatClampNeg] Z = some (.int (j - 128)) := by
  have e := idx_at (args := args) (first := Z) (s := Z) (o := none) hj
  simp only [Term.eval] at e ⊢
  simp [e, (back32 hj).1]
theorem own_nb (x : Int32) : nar .byte x.toInt8.toInt32 = x.toInt8.toInt32 := by simp [nar]
theorem own_ch (x : Int32) : ¬ (255 : Int32) < (x &&& 255).toUInt32.toUInt16.toUInt32.toInt32 ∧ ¬ (x &&& 255).toUInt32.toUInt16.toUInt32.toInt32 < 0 := by
  have e1 : (255 : Int32).toInt = 255 := by decide
  have e2 : (0 : Int32).toInt = 0 := by decide
  have q := c_and x 255 (by decide)
  rw [i2c_mask]
  simp only [Int32.lt_iff_toInt_lt, e1, e2] at *
  omega
theorem own_nc (x : Int32) : nar .char x.toUInt32.toUInt16.toUInt32.toInt32 = x.toUInt32.toUInt16.toUInt32.toInt32 := by simp only [nar, UInt32.toUInt32_toInt32, UInt16.toUInt16_toUInt32]
theorem own_and3 {x k : Int32} (hk : k = x &&& 3) (h0 : ¬ k = 0) (h1 : ¬ k = 1) (h2 : ¬ k = 2) : k = 3 := by
  have q := c_and x 3 (by decide)
  rw [← hk] at q
  have e0 : (0 : Int32).toInt = 0 := by decide
  have e1 : (1 : Int32).toInt = 1 := by decide
  have e2 : (2 : Int32).toInt = 2 := by decide
  have e3 : (3 : Int32).toInt = 3 := by decide
  rw [← Int32.toInt_inj, e0] at h0
  rw [← Int32.toInt_inj, e1] at h1
  rw [← Int32.toInt_inj, e2] at h2
  rw [e3] at q
  rw [← Int32.toInt_inj, e3]
  omega
set_option maxRecDepth 65536 in
set_option maxHeartbeats 40000000 in
theorem rm_new4_0 {l : Launch} {Z : State} {a0 : Array Value} (hw : ∀ d ∈ tables_1, d.before a0 Z = true) (a aC : Addr) (kC : ClassId) (h0 : Heap) (O0 : Ext Z.heap h0) (f0 : Z.heap.size ≤ a) (E0 : Exa Z h0 a "java/lang/String") (FV : Fld Z h0 a "java/lang/String" "value" "[B" .null) (FC : Fld Z h0 a "java/lang/String" "coder" "B" (.int 0)) (VC : Arv Z h0 aC kC .char (0 : Int32) [] (.int 0)) (ne0 : a ≠ aC) :
    ConW l (⟨"java/lang/String", "<init>", "([CIILjava/lang/Void;)V"⟩ : MethodName) jdk_42_method_149_code 6 none ({ frames := 1, cells := 4, slots := 8, locals := 12 } : Room) Z own_EL #[(.ref a), (.ref aC), (.int (0 : Int32)), (.int (0 : Int32)), .null] h0 (fun v h L => ∃ (b : Addr) (k : ClassId), v = none ∧ Fr Z.heap.size L ∧ Keep h0 h [a] ∧ Fld Z h a "java/lang/String" "value" "[B" (.ref b) ∧ Fld Z h a "java/lang/String" "coder" "B" (.int 0) ∧ Arv Z h b k .byte (0 : Int32) [] (.int 0) ∧ a ≠ b) := by
  refine ConW.of (plainFor_of_name pn_0) (Ls := #[rv a, rv aC, iv (0 : Int32), iv (0 : Int32), .val .null, .unset]) (fun m => efOf rfl) ?_
  intro p e s m below meth c T0 X0 hx hZ hby hml hown hnm hret hlk e0 hs0 hS hk H0
  have SFa : Safe Z own_EL s.vm h0 a := own_sfnull hZ.alike E0 FV
  refine go (fun _ => XS.aloadN X0.here hx rfl (hb hby d0_0) rfl rfl) ?_
  show Ends p e below _ T0 (mkF m 1 #[rv a, rv aC, iv (0 : Int32), iv (0 : Int32), .val .null, .unset] [(.ref a)])
  obtain ⟨T1, X1, e1, s1⟩ := initO X0 hx hZ hown (hwi hw 15 rfl) (hwi hw 16 rfl) (hwi hw 17 rfl) e0 (g := (mkF m 1 #[rv a, rv aC, iv (0 : Int32), iv (0 : Int32), .val .null, .unset] [(.ref a)])) rfl (by rw [hml]; rfl) rfl (hb hby d0_1) (by decide) (W := 0) (by show 2 * 0 + _ ≤ _; exact Nat.le_of_eq rfl) (by decide)
  refine go s1 ?_
  show Ends p e below _ T1 (mkF m 4 #[rv a, rv aC, iv (0 : Int32), iv (0 : Int32), .val .null, .unset] [])
  refine go (fun _ => XS.iloadN X1.here hx rfl (hb hby d0_4) rfl) ?_
  show Ends p e below _ T1 (mkF m 5 #[rv a, rv aC, iv (0 : Int32), iv (0 : Int32), .val .null, .unset] [(.int (0 : Int32))])
  refine go (fun _ => XS.ifNo X1.here hx rfl (hb hby d0_5) rfl (XT.i0_ne_f ((by decide) : (0 : Int32) = (0 : Int32)))) ?_
  show Ends p e below _ T1 (mkF m 8 #[rv a, rv aC, iv (0 : Int32), iv (0 : Int32), .val .null, .unset] [])
  refine go (fun _ => XS.aloadN X1.here hx rfl (hb hby d0_8) rfl rfl) ?_
  show Ends p e below _ T1 (mkF m 9 #[rv a, rv aC, iv (0 : Int32), iv (0 : Int32), .val .null, .unset] [(.ref a)])
  obtain ⟨a2, T2, h2, k2w, b2, k2, X2, e2, E2, hS, hk, hZ, hown, Ea2, Fc2, Fv2, Vb2, la2, lb2, C2, -, ne2, s2⟩ := ldcCH X1 hx hZ hown (hwi hw 34 rfl) (own_SA hw) e1 hS hk (own_EW hw) (by decide) H0.1 (vs := ([] : List Value)) (z := (0 : Int32)) (by decide) (by decide) (by decide) (g := (mkF m 9 #[rv a, rv aC, iv (0 : Int32), iv (0 : Int32), .val .null, .unset] [(.ref a)])) rfl (hb hby d0_9) (n := 0) (by decide) (by decide) (by decide) (by decide)
  have H3 := H0.trans C2
  have O4 : Ext Z.heap h2 := xx O0 E2
  have F5 := (CHr.safe C2 (E0.lt) SFa)
  refine go s2 ?_
  show Ends p e below _ T2 (mkF m 11 #[rv a, rv aC, iv (0 : Int32), iv (0 : Int32), .val .null, .unset] [(.ref a2), (.ref a)])
  obtain ⟨T6, X6, e6, s6⟩ := getF X2 hx hZ hown (host := "") (Or.inl (hwi hw 32 rfl)) Via.refl e2 Fv2 (g := (mkF m 11 #[rv a, rv aC, iv (0 : Int32), iv (0 : Int32), .val .null, .unset] [(.ref a2), (.ref a)])) rfl rfl (hb hby d0_11)
  refine go s6 ?_
  show Ends p e below _ T6 (mkF m 14 #[rv a, rv aC, iv (0 : Int32), iv (0 : Int32), .val .null, .unset] [(.ref b2), (.ref a)])
  have F7 := (Exa.ext E2 E0)
  have F8 := (Fld.ext E2 FV)
  obtain ⟨T9, h9, X9, e9, W9, s9⟩ := putF X6 hx hZ hown (host := "") (Or.inl (hwi hw 32 rfl)) Via.refl e6 F8 F7 (Or.inr ⟨(hwi hw 33 rfl), rfl, hnm⟩) (hwi hw 5 rfl) (ty := (.array .byte)) (by decide) rfl rfl (g := (mkF m 14 #[rv a, rv aC, iv (0 : Int32), iv (0 : Int32), .val .null, .unset] [(.ref b2), (.ref a)])) rfl rfl (hb hby d0_14)
  have N9 := Fr.snoc X9 (Fr.nil _) f0
  have C10 : CHr Z own_EL T2.vm h2 T2.vm h9 := CHr.wr W9 F5 H3.1
  have hk := Nat.le_trans hk C10.2.1
  have H10 := H3.trans C10
  have O11 : Ext Z.heap h9 := xw O4 W9 f0
  refine go s9 ?_
  show Ends p e below _ T9 (mkF m 17 #[rv a, rv aC, iv (0 : Int32), iv (0 : Int32), .val .null, .unset] [])
  refine go (fun _ => XS.aloadN X9.here hx rfl (hb hby d0_17) rfl rfl) ?_
  show Ends p e below _ T9 (mkF m 18 #[rv a, rv aC, iv (0 : Int32), iv (0 : Int32), .val .null, .unset] [(.ref a)])
  obtain ⟨a12, T12, h12, k12w, b12, k12, X12, e12, E12, hS, hk, hZ, hown, Ea12, Fc12, Fv12, Vb12, la12, lb12, C12, -, ne12, s12⟩ := ldcCH X9 hx hZ hown (hwi hw 34 rfl) (own_SA hw) e9 hS hk (own_EW hw) (by decide) H10.1 (vs := ([] : List Value)) (z := (0 : Int32)) (by decide) (by decide) (by decide) (g := (mkF m 18 #[rv a, rv aC, iv (0 : Int32), iv (0 : Int32), .val .null, .unset] [(.ref a)])) rfl (hb hby d0_18) (n := 0) (by decide) (by decide) (by decide) (by decide)
  have F13 := (Exa.wr W9 F7)
  have H14 := H10.trans C12
  have O15 : Ext Z.heap h12 := xx O11 E12
  have F16 := (CHr.safe C12 (F13.lt) (Safe.wr W9 F5 H3.1 F5))
  refine go s12 ?_
  show Ends p e below _ T12 (mkF m 20 #[rv a, rv aC, iv (0 : Int32), iv (0 : Int32), .val .null, .unset] [(.ref a12), (.ref a)])
  obtain ⟨T17, X17, e17, s17⟩ := getF X12 hx hZ hown (host := "") (Or.inl (hwi hw 30 rfl)) Via.refl e12 Fc12 (g := (mkF m 20 #[rv a, rv aC, iv (0 : Int32), iv (0 : Int32), .val .null, .unset] [(.ref a12), (.ref a)])) rfl rfl (hb hby d0_20)
  refine go s17 ?_
  show Ends p e below _ T17 (mkF m 23 #[rv a, rv aC, iv (0 : Int32), iv (0 : Int32), .val .null, .unset] [(.int (0 : Int32)), (.ref a)])
  have F18 := (Exa.ext E12 F13)
  have F19 := (Fld.ext E12 (Fld.other W9 (Fld.ext E2 FC) (Or.inr (slot_ne (a0 := a0) (Or.inr (hwi hw 31 rfl)) (Or.inr (hwi hw 33 rfl)) (by decide) (t := .byte) (t' := (.array .byte)) (by decide) (by decide)))))
  obtain ⟨T20, h20, X20, e20, W20, s20⟩ := putF X17 hx hZ hown (host := "") (Or.inl (hwi hw 30 rfl)) Via.refl e17 F19 F18 (Or.inr ⟨(hwi hw 31 rfl), rfl, hnm⟩) (hwi hw 5 rfl) (ty := .byte) (by decide) rfl rfl (g := (mkF m 23 #[rv a, rv aC, iv (0 : Int32), iv (0 : Int32), .val .null, .unset] [(.int (0 : Int32)), (.ref a)])) rfl rfl (hb hby d0_23)
  have N20 := Fr.snoc X20 N9 f0
  have C21 : CHr Z own_EL T12.vm h12 T12.vm h20 := CHr.wr W20 F16 H14.1
  have hk := Nat.le_trans hk C21.2.1
  have H21 := H14.trans C21
  have O22 : Ext Z.heap h20 := xw O15 W20 f0
  refine go s20 ?_
  show Ends p e below _ T20 (mkF m 26 #[rv a, rv aC, iv (0 : Int32), iv (0 : Int32), .val .null, .unset] [])
  have K23 : Keep h0 h20 [a] := (Keep.wr (Keep.ext (Keep.wr (Keep.ext (Keep.refl _ _) E2) W9 (Or.inl (List.mem_of_getElem? (i := 0) rfl))) E12) W20 (Or.inl (List.mem_of_getElem? (i := 0) rfl)))
  have F24 := (Fld.other W20 (Fld.ext E12 (Fld.same W9 F8)) (Or.inr (slot_ne (a0 := a0) (Or.inr (hwi hw 33 rfl)) (Or.inr (hwi hw 31 rfl)) (by decide) (t := (.array .byte)) (t' := .byte) (by decide) (by decide))))
  have F25 := (Fld.same W20 F19)
  have F26 := (Arv.other (Arv.ext (Arv.other Vb2 W9 (Ne.symm (ne2 _ F5).2)) E12) W20 (Ne.symm (ne2 _ F5).2))
  exact endV X20 hx hret (hb hby d0_26) (lvW X20 hlk hZ (own_EW hw) hs0 hS hk H21 e20 (fun _ => rfl) ⟨b2, _, rfl, N20, K23, F24, F25, F26, (ne2 _ F5).2⟩ (by decide) (by decide))
set_option maxRecDepth 65536 in
set_option maxHeartbeats 40000000 in
theorem rm_new1_0 {l : Launch} {Z : State} {a0 : Array Value} (hw : ∀ d ∈ tables_1, d.before a0 Z = true) (a aC : Addr) (kC : ClassId) (h0 : Heap) (O0 : Ext Z.heap h0) (f0 : Z.heap.size ≤ a) (E0 : Exa Z h0 a "java/lang/String") (FV : Fld Z h0 a "java/lang/String" "value" "[B" .null) (FC : Fld Z h0 a "java/lang/String" "coder" "B" (.int 0)) (VC : Arv Z h0 aC kC .char (0 : Int32) [] (.int 0)) (ne0 : a ≠ aC) :
    ConW l (⟨"java/lang/String", "<init>", "([C)V"⟩ : MethodName) jdk_42_method_3_code 2 none ({ frames := 2, cells := 4, slots := 8, locals := 29 } : Room) Z own_EL #[(.ref a), (.ref aC)] h0 (fun v h L => ∃ (b : Addr) (k : ClassId), v = none ∧ Fr Z.heap.size L ∧ Keep h0 h [a] ∧ Fld Z h a "java/lang/String" "value" "[B" (.ref b) ∧ Fld Z h a "java/lang/String" "coder" "B" (.int 0) ∧ Arv Z h b k .byte (0 : Int32) [] (.int 0) ∧ a ≠ b) := by
  refine ConW.of (plainFor_of_name pn_0) (Ls := #[rv a, rv aC]) (fun m => efOf rfl) ?_
  intro p e s m below meth c T0 X0 hx hZ hby hml hown hnm hret hlk e0 hs0 hS hk H0
  have SFa : Safe Z own_EL s.vm h0 a := own_sfnull hZ.alike E0 FV
  refine go (fun _ => XS.aloadN X0.here hx rfl (hb hby d1_0) rfl rfl) ?_
  refine go (fun _ => XS.aloadN X0.here hx rfl (hb hby d1_1) rfl rfl) ?_
  refine go (fun _ => XT.iconstV X0.here hx rfl (0 : Int32) (hb hby d1_2) (by decide)) ?_
  refine go (fun _ => XS.aloadN X0.here hx rfl (hb hby d1_3) rfl rfl) ?_
  show Ends p e below _ T0 (mkF m 4 #[rv a, rv aC] [(.ref aC), (.int (0 : Int32)), (.ref aC), (.ref a)])
  obtain ⟨cl27, A27, -, S27, M27, -⟩ := id VC
  refine go (fun _ => X0.arraylength hx (cell := cl27) (by rw [e0]; exact A27.1) (State.isArrayOf_alike hZ.alike A27.2.1) (g := (mkF m 4 #[rv a, rv aC] [(.ref aC), (.int (0 : Int32)), (.ref aC), (.ref a)])) rfl rfl (hb hby d1_4) _) ?_
  rw [len_of S27 M27]
  show Ends p e below _ T0 (mkF m 5 #[rv a, rv aC] [(.int (0 : Int32)), (.int (0 : Int32)), (.ref aC), (.ref a)])
  refine go (fun _ => XS.aconstNull X0.here hx rfl (hb hby d1_5)) ?_
  show Ends p e below _ T0 (mkF m 6 #[rv a, rv aC] [.null, (.int (0 : Int32)), (.int (0 : Int32)), (.ref aC), (.ref a)])
  refine cInitW X0 hx hZ hown (by rw [hml]; rfl) e0 (own_EW hw) hS hk H0.1 (hwi hw 11 rfl) (hwi hw 12 rfl) (hwi hw 6 rfl) (hwi hw 14 rfl) a [(.ref aC), (.int (0 : Int32)), (.int (0 : Int32)), .null] [] rfl (rm_new4_0 hw a aC kC _ O0 f0 E0 FV FC VC ne0) (hb hby d1_6) rfl (lenOf pd_1 rfl) rfl (by decide) (by decide) (Nat.le_of_ble_eq_true rfl) (by decide) (by decide) ?_
  rintro v28 T28 h28 L28 k28w X28 e28 hS hk hZ hown C28w ⟨b28, k28, rfl, N28, K28, Fv28, Fc28, V28, nb28⟩
  have N28a := Fr.app (Fr.nil _) N28
  have H29 := H0.trans C28w
  have O30 : Ext Z.heap h28 := xk O0 K28 (allS f0 all0)
  show Ends p e below _ T28 (mkF m 9 #[rv a, rv aC] [])
  have K31 : Keep h0 h28 [a] := (Keep.trans (Keep.refl _ _) K28 (allS (Or.inl (List.mem_of_getElem? (i := 0) rfl)) all0))
  exact endV X28 hx hret (hb hby d1_9) (lvW X28 hlk hZ (own_EW hw) hs0 hS hk H29 e28 (fun _ => rfl) ⟨b28, _, rfl, N28a, K31, Fv28, Fc28, V28, nb28⟩ (by decide) (by decide))
set_option maxRecDepth 65536 in
set_option maxHeartbeats 40000000 in
theorem rm_cmp5_1 {l : Launch} {Z : State} {a0 : Array Value} (hw : ∀ d ∈ tables_1, d.before a0 Z = true) (aC aB : Addr) (kC kB : ClassId) (y0 : Int32)  (h0 : Heap) (O0 : Ext Z.heap h0) (f0 : Z.heap.size ≤ aB) (ne0 : aC ≠ aB) (VC : Arv Z h0 aC kC .char (1 : Int32) [(.int y0)] (.int 0)) (VB : Arv Z h0 aB kB .byte (1 : Int32) [(.int (0 : Int32))] (.int 0)) (l0 : ¬ (255 : Int32) < y0) :
    Con l (⟨"java/lang/StringUTF16", "compress", "([CI[BII)I"⟩ : MethodName) jdk_52_method_21_code 7 (some .int) ({ frames := 0, cells := 0, slots := 0, locals := 0 } : Room) Z #[(.ref aC), (.int (0 : Int32)), (.ref aB), (.int (0 : Int32)), (.int (1 : Int32))] h0 (fun v h L => v = some (.int (1 : Int32)) ∧ Fr Z.heap.size L ∧ Keep h0 h [aB] ∧ Arv Z h aB kB .byte (1 : Int32) [(.int y0.toInt8.toInt32)] (.int 0)) := by
  refine Con.of (plainFor_of_name pn_2) (Ls := #[rv aC, iv (0 : Int32), rv aB, iv (0 : Int32), iv (1 : Int32), .unset, .unset]) (fun m => efOf rfl) ?_
  intro p e s m below meth c T0 X0 hx hZ hby hml hown hnm hret hlk e0
  refine go (fun _ => XT.iconstV X0.here hx rfl (0 : Int32) (hb hby d2_0) (by decide)) ?_
  refine go (fun _ => XS.istore X0.here hx rfl (hb hby d2_1) rfl (l' := #[rv aC, iv (0 : Int32), rv aB, iv (0 : Int32), iv (1 : Int32), iv (0 : Int32), .unset]) rfl) ?_
  refine go (fun _ => XS.iload X0.here hx rfl (hb hby d2_3) rfl) ?_
  refine go (fun _ => XS.iload X0.here hx rfl (hb hby d2_5) rfl) ?_
  show Ends p e below _ T0 (mkF m 7 #[rv aC, iv (0 : Int32), rv aB, iv (0 : Int32), iv (1 : Int32), iv (0 : Int32), .unset] [(.int (1 : Int32)), (.int (0 : Int32))])
  refine go (fun _ => XS.icmpNo X0.here hx rfl (hb hby d2_7) rfl (XT.ii_ge_f ((by decide) : (0 : Int32) < (1 : Int32)))) ?_
  show Ends p e below _ T0 (mkF m 10 #[rv aC, iv (0 : Int32), rv aB, iv (0 : Int32), iv (1 : Int32), iv (0 : Int32), .unset] [])
  refine go (fun _ => XS.aloadN X0.here hx rfl (hb hby d2_10) rfl rfl) ?_
  refine go (fun _ => XS.iloadN X0.here hx rfl (hb hby d2_11) rfl) ?_
  show Ends p e below _ T0 (mkF m 12 #[rv aC, iv (0 : Int32), rv aB, iv (0 : Int32), iv (1 : Int32), iv (0 : Int32), .unset] [(.int (0 : Int32)), (.ref aC)])
  obtain ⟨cl32, A32, -, S32, M32, H32, -⟩ := id VC
  have B32 := inb_of S32 (j := (0 : Int32)) (by decide)
  refine go (fun _ => X0.caload hx (j := (0 : Int32)) (v := (.int y0)) (by rw [e0]; exact A32.1) (State.isArrayOf_alike hZ.alike A32.2.1) A32.2.2 B32 (H32.at B32 rfl) (g := (mkF m 12 #[rv aC, iv (0 : Int32), rv aB, iv (0 : Int32), iv (1 : Int32), iv (0 : Int32), .unset] [(.int (0 : Int32)), (.ref aC)])) rfl rfl (hb hby d2_12) _) ?_
  show Ends p e below _ T0 (mkF m 13 #[rv aC, iv (0 : Int32), rv aB, iv (0 : Int32), iv (1 : Int32), iv (0 : Int32), .unset] [(.int y0)])
  refine go (fun _ => XS.istore X0.here hx rfl (hb hby d2_13) rfl (l' := #[rv aC, iv (0 : Int32), rv aB, iv (0 : Int32), iv (1 : Int32), iv (0 : Int32), iv y0]) rfl) ?_
  refine go (fun _ => XS.iload X0.here hx rfl (hb hby d2_15) rfl) ?_
  refine go (fun _ => XT.sipushV X0.here hx rfl (255 : Int32) (hb hby d2_17) (by decide)) ?_
  show Ends p e below _ T0 (mkF m 20 #[rv aC, iv (0 : Int32), rv aB, iv (0 : Int32), iv (1 : Int32), iv (0 : Int32), iv y0] [(.int (255 : Int32)), (.int y0)])
  refine go (fun _ => XS.icmpYes X0.here hx rfl (pc0 := 20) (pc' := 26) rfl (hb hby d2_20) rfl (XT.ii_le_t l0) (by decide) (by decide)) ?_
  show Ends p e below _ T0 (mkF m 26 #[rv aC, iv (0 : Int32), rv aB, iv (0 : Int32), iv (1 : Int32), iv (0 : Int32), iv y0] [])
  refine go (fun _ => XS.aloadN X0.here hx rfl (hb hby d2_26) rfl rfl) ?_
  refine go (fun _ => XS.iloadN X0.here hx rfl (hb hby d2_27) rfl) ?_
  refine go (fun _ => XS.iload X0.here hx rfl (hb hby d2_28) rfl) ?_
  refine go (fun _ => XT.i2b X0.here hx rfl (hb hby d2_30) rfl) ?_
  show Ends p e below _ T0 (mkF m 31 #[rv aC, iv (0 : Int32), rv aB, iv (0 : Int32), iv (1 : Int32), iv (0 : Int32), iv y0] [(.int y0.toInt8.toInt32), (.int (0 : Int32)), (.ref aB)])
  obtain ⟨cl33, A33, q33, S33, M33, H33, G33⟩ := id VB
  obtain ⟨T33, h33, X33, e33, W33, s33⟩ := stB X0 hx hZ e0 A33 (j := (0 : Int32)) (inb_of S33 (by decide)) (g := (mkF m 31 #[rv aC, iv (0 : Int32), rv aB, iv (0 : Int32), iv (1 : Int32), iv (0 : Int32), iv y0] [(.int y0.toInt8.toInt32), (.int (0 : Int32)), (.ref aB)])) rfl rfl (hb hby d2_31)
  have r33 : nar .byte y0.toInt8.toInt32 = y0.toInt8.toInt32 := own_nb _
  rw [r33] at W33
  have N33 := Fr.snoc X33 (Fr.nil _) f0
  have O34 : Ext Z.heap h33 := xw O0 W33 f0
  have V33 : Arv Z h33 aB kB .byte (1 : Int32) [(.int y0.toInt8.toInt32)] (.int 0) := Arv.set A33 q33 S33 M33 H33 G33 (by first | rfl | exact fits_nar_byte y0.toInt8.toInt32 | (rw [← r33]; exact fits_nar_byte y0.toInt8.toInt32)) W33 0 (by decide) (Nat.le_of_ble_eq_true rfl)
  refine go s33 ?_
  show Ends p e below _ T33 (mkF m 32 #[rv aC, iv (0 : Int32), rv aB, iv (0 : Int32), iv (1 : Int32), iv (0 : Int32), iv y0] [])
  refine go (fun _ => XT.iincV X33.here hx rfl (1 : Int32) (hb hby d2_32) (by decide) rfl (l' := #[rv aC, iv (1 : Int32), rv aB, iv (0 : Int32), iv (1 : Int32), iv (0 : Int32), iv y0]) rfl) ?_
  refine go (fun _ => XT.iincV X33.here hx rfl (1 : Int32) (hb hby d2_35) (by decide) rfl (l' := #[rv aC, iv (1 : Int32), rv aB, iv (1 : Int32), iv (1 : Int32), iv (0 : Int32), iv y0]) rfl) ?_
  refine go (fun _ => XT.iincV X33.here hx rfl (1 : Int32) (hb hby d2_38) (by decide) rfl (l' := #[rv aC, iv (1 : Int32), rv aB, iv (1 : Int32), iv (1 : Int32), iv (1 : Int32), iv y0]) rfl) ?_
  refine go (fun _ => XS.goto X33.here hx rfl (pc0 := 41) (pc' := 3) rfl (hb hby d2_41) (by decide) (by decide)) ?_
  refine go (fun _ => XS.iload X33.here hx rfl (hb hby d2_3) rfl) ?_
  refine go (fun _ => XS.iload X33.here hx rfl (hb hby d2_5) rfl) ?_
  show Ends p e below _ T33 (mkF m 7 #[rv aC, iv (1 : Int32), rv aB, iv (1 : Int32), iv (1 : Int32), iv (1 : Int32), iv y0] [(.int (1 : Int32)), (.int (1 : Int32))])
  refine go (fun _ => XS.icmpYes X33.here hx rfl (pc0 := 7) (pc' := 44) rfl (hb hby d2_7) rfl (XT.ii_ge_t ((by decide) : ¬ ((1 : Int32) < (1 : Int32)))) (by decide) (by decide)) ?_
  show Ends p e below _ T33 (mkF m 44 #[rv aC, iv (1 : Int32), rv aB, iv (1 : Int32), iv (1 : Int32), iv (1 : Int32), iv y0] [])
  refine go (fun _ => XS.iload X33.here hx rfl (hb hby d2_44) rfl) ?_
  show Ends p e below _ T33 (mkF m 46 #[rv aC, iv (1 : Int32), rv aB, iv (1 : Int32), iv (1 : Int32), iv (1 : Int32), iv y0] [(.int (1 : Int32))])
  have K35 : Keep h0 h33 [aB] := (Keep.wr (Keep.refl _ _) W33 (Or.inl (List.mem_of_getElem? (i := 0) rfl)))
  exact endI X33 hx hret (hb hby d2_46) (lvN X33 hlk e33 (fun h => by rw [hret] at h; cases h) ⟨rfl, N33, K35, V33⟩ (by decide) (by decide))
set_option maxRecDepth 65536 in
set_option maxHeartbeats 40000000 in
theorem rm_cmp3_1 {l : Launch} {Z : State} {a0 : Array Value} (hw : ∀ d ∈ tables_1, d.before a0 Z = true) (aC : Addr) (kC : ClassId) (y0 : Int32)  (h0 : Heap) (O0 : Ext Z.heap h0) (VC : Arv Z h0 aC kC .char (1 : Int32) [(.int y0)] (.int 0)) (l0 : ¬ (255 : Int32) < y0) :
    Con l (⟨"java/lang/StringUTF16", "compress", "([CII)[B"⟩ : MethodName) jdk_52_method_16_code 6 (some (.array .byte)) ({ frames := 1, cells := 1, slots := 1, locals := 18 } : Room) Z #[(.ref aC), (.int (0 : Int32)), (.int (1 : Int32))] h0 (fun v h L => ∃ (b : Addr) (k : ClassId), v = some (.ref b) ∧ Fr Z.heap.size L ∧ Keep h0 h [] ∧ h0.size ≤ b ∧ Arv Z h b k .byte (1 : Int32) [(.int y0.toInt8.toInt32)] (.int 0)) := by
  refine Con.of (plainFor_of_name pn_2) (Ls := #[rv aC, iv (0 : Int32), iv (1 : Int32), .unset, .unset, .unset]) (fun m => efOf rfl) ?_
  intro p e s m below meth c T0 X0 hx hZ hby hml hown hnm hret hlk e0
  refine go (fun _ => XS.iloadN X0.here hx rfl (hb hby d3_0) rfl) ?_
  show Ends p e below _ T0 (mkF m 1 #[rv aC, iv (0 : Int32), iv (1 : Int32), .unset, .unset, .unset] [(.int (1 : Int32))])
  obtain ⟨T36, h36, k36, X36, e36, E36, A36, s36⟩ := newP X0 hx hZ (hwi hw 23 rfl) e0 (g := (mkF m 1 #[rv aC, iv (0 : Int32), iv (1 : Int32), .unset, .unset, .unset] [(.int (1 : Int32))])) rfl (hb hby d3_1) rfl (by decide) (cap := 1) (by decide) (by decide) (by decide) (by decide)
  obtain ⟨a36, g36⟩ : ∃ z : Addr, z = h0.size := ⟨_, rfl⟩
  have n37 : aC ≠ a36 := fun q => absurd (VC.lt) (by rw [q, g36]; exact Nat.lt_irrefl _)
  have f36 : Z.heap.size ≤ a36 := by rw [g36]; exact (O0).1
  have K38 : Keep h0 h0 [] := (Keep.refl _ _)
  have b36 : h0.size ≤ a36 := by rw [g36]; exact (K38).1
  rw [← g36] at A36 s36
  have O39 : Ext Z.heap h36 := xx O0 E36
  have V36 : Arv Z h36 a36 k36 .byte (1 : Int32) [(.int (0 : Int32))] (.int 0) := Arv.pad (Arv.new A36 (by decide)) (pad_rep [] _ 1)
  refine go s36 ?_
  show Ends p e below _ T36 (mkF m 3 #[rv aC, iv (0 : Int32), iv (1 : Int32), .unset, .unset, .unset] [(.ref a36)])
  refine go (fun _ => XS.astoreN X36.here hx rfl (hb hby d3_3) rfl rfl (l' := #[rv aC, iv (0 : Int32), iv (1 : Int32), rv a36, .unset, .unset]) rfl) ?_
  refine go (fun _ => XS.aloadN X36.here hx rfl (hb hby d3_4) rfl rfl) ?_
  refine go (fun _ => XS.iloadN X36.here hx rfl (hb hby d3_5) rfl) ?_
  refine go (fun _ => XS.aloadN X36.here hx rfl (hb hby d3_6) rfl rfl) ?_
  refine go (fun _ => XT.iconstV X36.here hx rfl (0 : Int32) (hb hby d3_7) (by decide)) ?_
  refine go (fun _ => XS.iloadN X36.here hx rfl (hb hby d3_8) rfl) ?_
  show Ends p e below _ T36 (mkF m 9 #[rv aC, iv (0 : Int32), iv (1 : Int32), rv a36, .unset, .unset] [(.int (1 : Int32)), (.int (0 : Int32)), (.ref a36), (.int (0 : Int32)), (.ref aC)])
  have F40 := (Arv.ext VC E36)
  refine cStat X36 hx hZ hown (by rw [hml]; rfl) e36 (hwi hw 24 rfl) (hwi hw 25 rfl) (hwi hw 21 rfl) (hwi hw 26 rfl) [(.ref aC), (.int (0 : Int32)), (.ref a36), (.int (0 : Int32)), (.int (1 : Int32))] [] rfl (rm_cmp5_1 hw aC a36 kC k36 y0 _ O39 f36 n37 F40 V36 l0) (hb hby d3_9) rfl (lenOf pd_3 rfl) (by decide) (by decide) (Nat.le_of_ble_eq_true rfl) (by decide) (by decide) ?_
  rintro v41 T41 h41 L41 X41 e41 ⟨rfl, N41, K41, V41⟩
  have N41a := Fr.app (Fr.nil _) N41
  have O42 : Ext Z.heap h41 := xk O39 K41 (allS f36 all0)
  show Ends p e below _ T41 (mkF m 12 #[rv aC, iv (0 : Int32), iv (1 : Int32), rv a36, .unset, .unset] [(.int (1 : Int32))])
  refine go (fun _ => XS.istore X41.here hx rfl (hb hby d3_12) rfl (l' := #[rv aC, iv (0 : Int32), iv (1 : Int32), rv a36, iv (1 : Int32), .unset]) rfl) ?_
  refine go (fun _ => XS.iload X41.here hx rfl (hb hby d3_14) rfl) ?_
  refine go (fun _ => XS.iloadN X41.here hx rfl (hb hby d3_16) rfl) ?_
  show Ends p e below _ T41 (mkF m 17 #[rv aC, iv (0 : Int32), iv (1 : Int32), rv a36, iv (1 : Int32), .unset] [(.int (1 : Int32)), (.int (1 : Int32))])
  refine go (fun _ => XS.icmpYes X41.here hx rfl (pc0 := 17) (pc' := 57) rfl (hb hby d3_17) rfl (XT.ii_eq_t ((by decide) : (1 : Int32) = (1 : Int32))) (by decide) (by decide)) ?_
  show Ends p e below _ T41 (mkF m 57 #[rv aC, iv (0 : Int32), iv (1 : Int32), rv a36, iv (1 : Int32), .unset] [])
  refine go (fun _ => XS.aloadN X41.here hx rfl (hb hby d3_57) rfl rfl) ?_
  show Ends p e below _ T41 (mkF m 58 #[rv aC, iv (0 : Int32), iv (1 : Int32), rv a36, iv (1 : Int32), .unset] [(.ref a36)])
  have K43 : Keep h0 h41 [] := (Keep.trans (Keep.ext K38 E36) K41 (allS (Or.inr b36) all0))
  exact endA X41 hx hret rfl rfl (hb hby d3_58) (lvN X41 hlk e41 (fun h => by rw [hret] at h; cases h) ⟨a36, _, rfl, N41a, K43, b36, V41⟩ (by decide) (by decide))
set_option maxRecDepth 65536 in
set_option maxHeartbeats 40000000 in
theorem rm_coder_1 {l : Launch} {Z : State} {a0 : Array Value} (hw : ∀ d ∈ tables_1, d.before a0 Z = true) (aB : Addr) (kB : ClassId) (vs : List Value) (h0 : Heap) (VB : Arv Z h0 aB kB .byte (1 : Int32) vs (.int 0)) :
    Con l (⟨"java/lang/StringUTF16", "coderFromArrayLen", "([BI)B"⟩ : MethodName) jdk_52_method_15_code 2 (some .byte) ({ frames := 0, cells := 0, slots := 0, locals := 0 } : Room) Z #[(.ref aB), (.int (1 : Int32))] h0 (fun v h L => v = some (.int 0) ∧ Fr Z.heap.size L ∧ h0 = h) := by
  refine Con.of (plainFor_of_name pn_2) (Ls := #[rv aB, iv (1 : Int32)]) (fun m => efOf rfl) ?_
  intro p e s m below meth c T0 X0 hx hZ hby hml hown hnm hret hlk e0
  refine go (fun _ => XS.iloadN X0.here hx rfl (hb hby d4_0) rfl) ?_
  refine go (fun _ => XS.aloadN X0.here hx rfl (hb hby d4_1) rfl rfl) ?_
  show Ends p e below _ T0 (mkF m 2 #[rv aB, iv (1 : Int32)] [(.ref aB), (.int (1 : Int32))])
  obtain ⟨cl44, A44, -, S44, M44, -⟩ := id VB
  refine go (fun _ => X0.arraylength hx (cell := cl44) (by rw [e0]; exact A44.1) (State.isArrayOf_alike hZ.alike A44.2.1) (g := (mkF m 2 #[rv aB, iv (1 : Int32)] [(.ref aB), (.int (1 : Int32))])) rfl rfl (hb hby d4_2) _) ?_
  rw [len_of S44 M44]
  show Ends p e below _ T0 (mkF m 3 #[rv aB, iv (1 : Int32)] [(.int (1 : Int32)), (.int (1 : Int32))])
  refine go (fun _ => XS.isub X0.here hx rfl (hb hby d4_3) rfl) ?_
  refine go (fun _ => XT.bipushV X0.here hx rfl (31 : Int32) (hb hby d4_4) (by decide)) ?_
  refine go (fun _ => XT.iushr X0.here hx rfl (hb hby d4_6) rfl) ?_
  refine go (fun _ => XT.i2b X0.here hx rfl (hb hby d4_7) rfl) ?_
  show Ends p e below _ T0 (mkF m 8 #[rv aB, iv (1 : Int32)] [(.int (0 : Int32))])
  exact endN X0 hx hret (by simp) (hb hby d4_8) (lvN X0 hlk e0 (fun h => by rw [hret] at h; cases h) ⟨rfl, (Fr.nil _), rfl⟩ (by decide) (by decide))
set_option maxRecDepth 65536 in
set_option maxHeartbeats 40000000 in
theorem rm_new4_1 {l : Launch} {Z : State} {a0 : Array Value} (hw : ∀ d ∈ tables_1, d.before a0 Z = true) (a aC : Addr) (kC : ClassId) (y0 : Int32)  (h0 : Heap) (O0 : Ext Z.heap h0) (f0 : Z.heap.size ≤ a) (ne0 : a ≠ aC) (E0 : Exa Z h0 a "java/lang/String") (FV : Fld Z h0 a "java/lang/String" "value" "[B" .null) (FC : Fld Z h0 a "java/lang/String" "coder" "B" (.int 0)) (cz : Int32) (SCS : Sta Z Z.heap "java/lang/String" "COMPACT_STRINGS" "Z" (.int cz)) (hcz : ¬ cz = (0 : Int32)) (VC : Arv Z h0 aC kC .char (1 : Int32) [(.int y0)] (.int 0)) (l0 : ¬ (255 : Int32) < y0) :
    Con l (⟨"java/lang/String", "<init>", "([CIILjava/lang/Void;)V"⟩ : MethodName) jdk_42_method_149_code 6 none ({ frames := 2, cells := 1, slots := 1, locals := 35 } : Room) Z #[(.ref a), (.ref aC), (.int (0 : Int32)), (.int (1 : Int32)), .null] h0 (fun v h L => ∃ (b : Addr) (k : ClassId), v = none ∧ Fr Z.heap.size L ∧ Keep h0 h [a] ∧ h0.size ≤ b ∧ Fld Z h a "java/lang/String" "value" "[B" (.ref b) ∧ Fld Z h a "java/lang/String" "coder" "B" (.int 0) ∧ Arv Z h b k .byte (1 : Int32) [(.int y0.toInt8.toInt32)] (.int 0)) := by
  refine Con.of (plainFor_of_name pn_0) (Ls := #[rv a, rv aC, iv (0 : Int32), iv (1 : Int32), .val .null, .unset]) (fun m => efOf rfl) ?_
  intro p e s m below meth c T0 X0 hx hZ hby hml hown hnm hret hlk e0
  refine go (fun _ => XS.aloadN X0.here hx rfl (hb hby d0_0) rfl rfl) ?_
  show Ends p e below _ T0 (mkF m 1 #[rv a, rv aC, iv (0 : Int32), iv (1 : Int32), .val .null, .unset] [(.ref a)])
  obtain ⟨T45, X45, e45, s45⟩ := initO X0 hx hZ hown (hwi hw 15 rfl) (hwi hw 16 rfl) (hwi hw 17 rfl) e0 (g := (mkF m 1 #[rv a, rv aC, iv (0 : Int32), iv (1 : Int32), .val .null, .unset] [(.ref a)])) rfl (by rw [hml]; rfl) rfl (hb hby d0_1) (by decide) (W := 0) (by show 2 * 0 + _ ≤ _; exact Nat.le_of_eq rfl) (by decide)
  refine go s45 ?_
  show Ends p e below _ T45 (mkF m 4 #[rv a, rv aC, iv (0 : Int32), iv (1 : Int32), .val .null, .unset] [])
  refine go (fun _ => XS.iloadN X45.here hx rfl (hb hby d0_4) rfl) ?_
  show Ends p e below _ T45 (mkF m 5 #[rv a, rv aC, iv (0 : Int32), iv (1 : Int32), .val .null, .unset] [(.int (1 : Int32))])
  refine go (fun _ => XS.ifYes X45.here hx rfl (pc0 := 5) (pc' := 27) rfl (hb hby d0_5) rfl (XT.i0_ne_t ((by decide) : ¬ ((1 : Int32) = (0 : Int32)))) (by decide) (by decide)) ?_
  show Ends p e below _ T45 (mkF m 27 #[rv a, rv aC, iv (0 : Int32), iv (1 : Int32), .val .null, .unset] [])
  obtain ⟨T46, X46, e46, s46⟩ := getS2 X45 hx hZ hown (host := "") (Or.inl (hwi hw 18 rfl)) Via.refl e45 (Sta.ext O0 SCS) (g := (mkF m 27 #[rv a, rv aC, iv (0 : Int32), iv (1 : Int32), .val .null, .unset] [])) rfl (hb hby d0_27)
  refine go s46 ?_
  show Ends p e below _ T46 (mkF m 30 #[rv a, rv aC, iv (0 : Int32), iv (1 : Int32), .val .null, .unset] [(.int cz)])
  refine go (fun _ => XS.ifNo X46.here hx rfl (hb hby d0_30) rfl (XT.i0_eq_f hcz)) ?_
  show Ends p e below _ T46 (mkF m 33 #[rv a, rv aC, iv (0 : Int32), iv (1 : Int32), .val .null, .unset] [])
  refine go (fun _ => XS.aloadN X46.here hx rfl (hb hby d0_33) rfl rfl) ?_
  refine go (fun _ => XS.iloadN X46.here hx rfl (hb hby d0_34) rfl) ?_
  refine go (fun _ => XS.iloadN X46.here hx rfl (hb hby d0_35) rfl) ?_
  show Ends p e below _ T46 (mkF m 36 #[rv a, rv aC, iv (0 : Int32), iv (1 : Int32), .val .null, .unset] [(.int (1 : Int32)), (.int (0 : Int32)), (.ref aC)])
  refine cStat X46 hx hZ hown (by rw [hml]; rfl) e46 (hwi hw 19 rfl) (hwi hw 20 rfl) (hwi hw 21 rfl) (hwi hw 22 rfl) [(.ref aC), (.int (0 : Int32)), (.int (1 : Int32))] [] rfl (rm_cmp3_1 hw aC kC y0 _ O0 VC l0) (hb hby d0_36) rfl (lenOf pd_4 rfl) (by decide) (by decide) (Nat.le_of_ble_eq_true rfl) (by decide) (by decide) ?_
  rintro v47 T47 h47 L47 X47 e47 ⟨b47, k47, rfl, N47, K47, g47, V47⟩
  have N47a := Fr.app (Fr.nil _) N47
  have n48 : a ≠ b47 := Nat.ne_of_lt (Nat.lt_of_lt_of_le (E0.lt) g47)
  have n49 : aC ≠ b47 := Nat.ne_of_lt (Nat.lt_of_lt_of_le (VC.lt) g47)
  have f50 : Z.heap.size ≤ b47 := Nat.le_trans (O0).1 g47
  have K51 : Keep h0 h0 [a] := (Keep.refl _ _)
  have b50 : h0.size ≤ b47 := Nat.le_trans (K51).1 g47
  have O52 : Ext Z.heap h47 := xk O0 K47 all0
  show Ends p e below _ T47 (mkF m 39 #[rv a, rv aC, iv (0 : Int32), iv (1 : Int32), .val .null, .unset] [(.ref b47)])
  refine go (fun _ => XS.astore X47.here hx rfl (hb hby d0_39) rfl rfl (l' := #[rv a, rv aC, iv (0 : Int32), iv (1 : Int32), .val .null, rv b47]) rfl) ?_
  refine go (fun _ => XS.aloadN X47.here hx rfl (hb hby d0_41) rfl rfl) ?_
  refine go (fun _ => XS.aload X47.here hx rfl (hb hby d0_42) rfl rfl) ?_
  refine go (fun _ => XS.iloadN X47.here hx rfl (hb hby d0_44) rfl) ?_
  show Ends p e below _ T47 (mkF m 45 #[rv a, rv aC, iv (0 : Int32), iv (1 : Int32), .val .null, rv b47] [(.int (1 : Int32)), (.ref b47), (.ref a)])
  refine cStat X47 hx hZ hown (by rw [hml]; rfl) e47 (hwi hw 27 rfl) (hwi hw 28 rfl) (hwi hw 21 rfl) (hwi hw 29 rfl) [(.ref b47), (.int (1 : Int32))] [(.ref a)] rfl (rm_coder_1 hw b47 _ _ _ V47) (hb hby d0_45) rfl (lenOf pd_5 rfl) (by decide) (by decide) (Nat.le_of_ble_eq_true rfl) (by decide) (by decide) ?_
  rintro v53 T53 h53 L53 X53 e53 ⟨rfl, N53, rfl⟩
  have N53a := Fr.app N47a N53
  show Ends p e below _ T53 (mkF m 48 #[rv a, rv aC, iv (0 : Int32), iv (1 : Int32), .val .null, rv b47] [(.int (0 : Int32)), (.ref a)])
  have F54 := (Exa.keep E0 K47)
  have F55 := (Fld.keep FC K47 nin0)
  obtain ⟨T56, h56, X56, e56, W56, s56⟩ := putF X53 hx hZ hown (host := "") (Or.inl (hwi hw 30 rfl)) Via.refl e53 F55 F54 (Or.inr ⟨(hwi hw 31 rfl), rfl, hnm⟩) (hwi hw 5 rfl) (ty := .byte) (by decide) rfl rfl (g := (mkF m 48 #[rv a, rv aC, iv (0 : Int32), iv (1 : Int32), .val .null, rv b47] [(.int (0 : Int32)), (.ref a)])) rfl rfl (hb hby d0_48)
  have N56 := Fr.snoc X56 N53a f0
  have O57 : Ext Z.heap h56 := xw O52 W56 f0
  refine go s56 ?_
  show Ends p e below _ T56 (mkF m 51 #[rv a, rv aC, iv (0 : Int32), iv (1 : Int32), .val .null, rv b47] [])
  refine go (fun _ => XS.aloadN X56.here hx rfl (hb hby d0_51) rfl rfl) ?_
  refine go (fun _ => XS.aload X56.here hx rfl (hb hby d0_52) rfl rfl) ?_
  show Ends p e below _ T56 (mkF m 54 #[rv a, rv aC, iv (0 : Int32), iv (1 : Int32), .val .null, rv b47] [(.ref b47), (.ref a)])
  have F58 := (Exa.wr W56 F54)
  have F59 := (Fld.other W56 (Fld.keep FV K47 nin0) (Or.inr (slot_ne (a0 := a0) (Or.inr (hwi hw 33 rfl)) (Or.inr (hwi hw 31 rfl)) (by decide) (t := (.array .byte)) (t' := .byte) (by decide) (by decide))))
  obtain ⟨T60, h60, X60, e60, W60, s60⟩ := putF X56 hx hZ hown (host := "") (Or.inl (hwi hw 32 rfl)) Via.refl e56 F59 F58 (Or.inr ⟨(hwi hw 33 rfl), rfl, hnm⟩) (hwi hw 5 rfl) (ty := (.array .byte)) (by decide) rfl rfl (g := (mkF m 54 #[rv a, rv aC, iv (0 : Int32), iv (1 : Int32), .val .null, rv b47] [(.ref b47), (.ref a)])) rfl rfl (hb hby d0_54)
  have N60 := Fr.snoc X60 N56 f0
  have O61 : Ext Z.heap h60 := xw O57 W60 f0
  refine go s60 ?_
  show Ends p e below _ T60 (mkF m 57 #[rv a, rv aC, iv (0 : Int32), iv (1 : Int32), .val .null, rv b47] [])
  have K62 : Keep h0 h60 [a] := (Keep.wr (Keep.wr (Keep.trans K51 K47 all0) W56 (Or.inl (List.mem_of_getElem? (i := 0) rfl))) W60 (Or.inl (List.mem_of_getElem? (i := 0) rfl)))
  have F63 := (Fld.same W60 F59)
  have F64 := (Fld.other W60 (Fld.same W56 F55) (Or.inr (slot_ne (a0 := a0) (Or.inr (hwi hw 31 rfl)) (Or.inr (hwi hw 33 rfl)) (by decide) (t := .byte) (t' := (.array .byte)) (by decide) (by decide))))
  have F65 := (Arv.other (Arv.other V47 W56 (Ne.symm n48)) W60 (Ne.symm n48))
  exact endV X60 hx hret (hb hby d0_57) (lvN X60 hlk e60 (fun _ => rfl) ⟨b47, _, rfl, N60, K62, b50, F63, F64, F65⟩ (by decide) (by decide))
set_option maxRecDepth 65536 in
set_option maxHeartbeats 40000000 in
theorem rm_new1_1 {l : Launch} {Z : State} {a0 : Array Value} (hw : ∀ d ∈ tables_1, d.before a0 Z = true) (a aC : Addr) (kC : ClassId) (y0 : Int32)  (h0 : Heap) (O0 : Ext Z.heap h0) (f0 : Z.heap.size ≤ a) (ne0 : a ≠ aC) (E0 : Exa Z h0 a "java/lang/String") (FV : Fld Z h0 a "java/lang/String" "value" "[B" .null) (FC : Fld Z h0 a "java/lang/String" "coder" "B" (.int 0)) (cz : Int32) (SCS : Sta Z Z.heap "java/lang/String" "COMPACT_STRINGS" "Z" (.int cz)) (hcz : ¬ cz = (0 : Int32)) (VC : Arv Z h0 aC kC .char (1 : Int32) [(.int y0)] (.int 0)) (l0 : ¬ (255 : Int32) < y0) :
    Con l (⟨"java/lang/String", "<init>", "([C)V"⟩ : MethodName) jdk_42_method_3_code 2 none ({ frames := 3, cells := 1, slots := 1, locals := 52 } : Room) Z #[(.ref a), (.ref aC)] h0 (fun v h L => ∃ (b : Addr) (k : ClassId), v = none ∧ Fr Z.heap.size L ∧ Keep h0 h [a] ∧ h0.size ≤ b ∧ Fld Z h a "java/lang/String" "value" "[B" (.ref b) ∧ Fld Z h a "java/lang/String" "coder" "B" (.int 0) ∧ Arv Z h b k .byte (1 : Int32) [(.int y0.toInt8.toInt32)] (.int 0)) := by
  refine Con.of (plainFor_of_name pn_0) (Ls := #[rv a, rv aC]) (fun m => efOf rfl) ?_
  intro p e s m below meth c T0 X0 hx hZ hby hml hown hnm hret hlk e0
  refine go (fun _ => XS.aloadN X0.here hx rfl (hb hby d1_0) rfl rfl) ?_
  refine go (fun _ => XS.aloadN X0.here hx rfl (hb hby d1_1) rfl rfl) ?_
  refine go (fun _ => XT.iconstV X0.here hx rfl (0 : Int32) (hb hby d1_2) (by decide)) ?_
  refine go (fun _ => XS.aloadN X0.here hx rfl (hb hby d1_3) rfl rfl) ?_
  show Ends p e below _ T0 (mkF m 4 #[rv a, rv aC] [(.ref aC), (.int (0 : Int32)), (.ref aC), (.ref a)])
  obtain ⟨cl66, A66, -, S66, M66, -⟩ := id VC
  refine go (fun _ => X0.arraylength hx (cell := cl66) (by rw [e0]; exact A66.1) (State.isArrayOf_alike hZ.alike A66.2.1) (g := (mkF m 4 #[rv a, rv aC] [(.ref aC), (.int (0 : Int32)), (.ref aC), (.ref a)])) rfl rfl (hb hby d1_4) _) ?_
  rw [len_of S66 M66]
  show Ends p e below _ T0 (mkF m 5 #[rv a, rv aC] [(.int (1 : Int32)), (.int (0 : Int32)), (.ref aC), (.ref a)])
  refine go (fun _ => XS.aconstNull X0.here hx rfl (hb hby d1_5)) ?_
  show Ends p e below _ T0 (mkF m 6 #[rv a, rv aC] [.null, (.int (1 : Int32)), (.int (0 : Int32)), (.ref aC), (.ref a)])
  refine cInit X0 hx hZ hown (by rw [hml]; rfl) e0 (hwi hw 11 rfl) (hwi hw 12 rfl) (hwi hw 6 rfl) (hwi hw 14 rfl) a [(.ref aC), (.int (0 : Int32)), (.int (1 : Int32)), .null] [] rfl (rm_new4_1 hw a aC kC y0 _ O0 f0 ne0 E0 FV FC cz SCS hcz VC l0) (hb hby d1_6) rfl (lenOf pd_1 rfl) rfl (by decide) (by decide) (Nat.le_of_ble_eq_true rfl) (by decide) (by decide) ?_
  rintro v67 T67 h67 L67 X67 e67 ⟨b67, k67, rfl, N67, K67, g67, Fv67, Fc67, V67⟩
  have N67a := Fr.app (Fr.nil _) N67
  have n68 : a ≠ b67 := Nat.ne_of_lt (Nat.lt_of_lt_of_le (E0.lt) g67)
  have n69 : aC ≠ b67 := Nat.ne_of_lt (Nat.lt_of_lt_of_le (VC.lt) g67)
  have f70 : Z.heap.size ≤ b67 := Nat.le_trans (O0).1 g67
  have K71 : Keep h0 h0 [a] := (Keep.refl _ _)
  have b70 : h0.size ≤ b67 := Nat.le_trans (K71).1 g67
  have O72 : Ext Z.heap h67 := xk O0 K67 (allS f0 all0)
  show Ends p e below _ T67 (mkF m 9 #[rv a, rv aC] [])
  have K73 : Keep h0 h67 [a] := (Keep.trans K71 K67 (allS (Or.inl (List.mem_of_getElem? (i := 0) rfl)) all0))
  exact endV X67 hx hret (hb hby d1_9) (lvN X67 hlk e67 (fun _ => rfl) ⟨b67, _, rfl, N67a, K73, b70, Fv67, Fc67, V67⟩ (by decide) (by decide))
set_option maxRecDepth 65536 in
set_option maxHeartbeats 40000000 in
theorem rm_cmp5_2 {l : Launch} {Z : State} {a0 : Array Value} (hw : ∀ d ∈ tables_1, d.before a0 Z = true) (aC aB : Addr) (kC kB : ClassId) (y0 y1 : Int32)  (h0 : Heap) (O0 : Ext Z.heap h0) (f0 : Z.heap.size ≤ aB) (ne0 : aC ≠ aB) (VC : Arv Z h0 aC kC .char (2 : Int32) [(.int y0), (.int y1)] (.int 0)) (VB : Arv Z h0 aB kB .byte (2 : Int32) [(.int (0 : Int32)), (.int (0 : Int32))] (.int 0)) (l0 : ¬ (255 : Int32) < y0) (l1 : ¬ (255 : Int32) < y1) :
    Con l (⟨"java/lang/StringUTF16", "compress", "([CI[BII)I"⟩ : MethodName) jdk_52_method_21_code 7 (some .int) ({ frames := 0, cells := 0, slots := 0, locals := 0 } : Room) Z #[(.ref aC), (.int (0 : Int32)), (.ref aB), (.int (0 : Int32)), (.int (2 : Int32))] h0 (fun v h L => v = some (.int (2 : Int32)) ∧ Fr Z.heap.size L ∧ Keep h0 h [aB] ∧ Arv Z h aB kB .byte (2 : Int32) [(.int y0.toInt8.toInt32), (.int y1.toInt8.toInt32)] (.int 0)) := by
  refine Con.of (plainFor_of_name pn_2) (Ls := #[rv aC, iv (0 : Int32), rv aB, iv (0 : Int32), iv (2 : Int32), .unset, .unset]) (fun m => efOf rfl) ?_
  intro p e s m below meth c T0 X0 hx hZ hby hml hown hnm hret hlk e0
  refine go (fun _ => XT.iconstV X0.here hx rfl (0 : Int32) (hb hby d2_0) (by decide)) ?_
  refine go (fun _ => XS.istore X0.here hx rfl (hb hby d2_1) rfl (l' := #[rv aC, iv (0 : Int32), rv aB, iv (0 : Int32), iv (2 : Int32), iv (0 : Int32), .unset]) rfl) ?_
  refine go (fun _ => XS.iload X0.here hx rfl (hb hby d2_3) rfl) ?_
  refine go (fun _ => XS.iload X0.here hx rfl (hb hby d2_5) rfl) ?_
  show Ends p e below _ T0 (mkF m 7 #[rv aC, iv (0 : Int32), rv aB, iv (0 : Int32), iv (2 : Int32), iv (0 : Int32), .unset] [(.int (2 : Int32)), (.int (0 : Int32))])
  refine go (fun _ => XS.icmpNo X0.here hx rfl (hb hby d2_7) rfl (XT.ii_ge_f ((by decide) : (0 : Int32) < (2 : Int32)))) ?_
  show Ends p e below _ T0 (mkF m 10 #[rv aC, iv (0 : Int32), rv aB, iv (0 : Int32), iv (2 : Int32), iv (0 : Int32), .unset] [])
  refine go (fun _ => XS.aloadN X0.here hx rfl (hb hby d2_10) rfl rfl) ?_
  refine go (fun _ => XS.iloadN X0.here hx rfl (hb hby d2_11) rfl) ?_
  show Ends p e below _ T0 (mkF m 12 #[rv aC, iv (0 : Int32), rv aB, iv (0 : Int32), iv (2 : Int32), iv (0 : Int32), .unset] [(.int (0 : Int32)), (.ref aC)])
  obtain ⟨cl74, A74, -, S74, M74, H74, -⟩ := id VC
  have B74 := inb_of S74 (j := (0 : Int32)) (by decide)
  refine go (fun _ => X0.caload hx (j := (0 : Int32)) (v := (.int y0)) (by rw [e0]; exact A74.1) (State.isArrayOf_alike hZ.alike A74.2.1) A74.2.2 B74 (H74.at B74 rfl) (g := (mkF m 12 #[rv aC, iv (0 : Int32), rv aB, iv (0 : Int32), iv (2 : Int32), iv (0 : Int32), .unset] [(.int (0 : Int32)), (.ref aC)])) rfl rfl (hb hby d2_12) _) ?_
  show Ends p e below _ T0 (mkF m 13 #[rv aC, iv (0 : Int32), rv aB, iv (0 : Int32), iv (2 : Int32), iv (0 : Int32), .unset] [(.int y0)])
  refine go (fun _ => XS.istore X0.here hx rfl (hb hby d2_13) rfl (l' := #[rv aC, iv (0 : Int32), rv aB, iv (0 : Int32), iv (2 : Int32), iv (0 : Int32), iv y0]) rfl) ?_
  refine go (fun _ => XS.iload X0.here hx rfl (hb hby d2_15) rfl) ?_
  refine go (fun _ => XT.sipushV X0.here hx rfl (255 : Int32) (hb hby d2_17) (by decide)) ?_
  show Ends p e below _ T0 (mkF m 20 #[rv aC, iv (0 : Int32), rv aB, iv (0 : Int32), iv (2 : Int32), iv (0 : Int32), iv y0] [(.int (255 : Int32)), (.int y0)])
  refine go (fun _ => XS.icmpYes X0.here hx rfl (pc0 := 20) (pc' := 26) rfl (hb hby d2_20) rfl (XT.ii_le_t l0) (by decide) (by decide)) ?_
  show Ends p e below _ T0 (mkF m 26 #[rv aC, iv (0 : Int32), rv aB, iv (0 : Int32), iv (2 : Int32), iv (0 : Int32), iv y0] [])
  refine go (fun _ => XS.aloadN X0.here hx rfl (hb hby d2_26) rfl rfl) ?_
  refine go (fun _ => XS.iloadN X0.here hx rfl (hb hby d2_27) rfl) ?_
  refine go (fun _ => XS.iload X0.here hx rfl (hb hby d2_28) rfl) ?_
  refine go (fun _ => XT.i2b X0.here hx rfl (hb hby d2_30) rfl) ?_
  show Ends p e below _ T0 (mkF m 31 #[rv aC, iv (0 : Int32), rv aB, iv (0 : Int32), iv (2 : Int32), iv (0 : Int32), iv y0] [(.int y0.toInt8.toInt32), (.int (0 : Int32)), (.ref aB)])
  obtain ⟨cl75, A75, q75, S75, M75, H75, G75⟩ := id VB
  obtain ⟨T75, h75, X75, e75, W75, s75⟩ := stB X0 hx hZ e0 A75 (j := (0 : Int32)) (inb_of S75 (by decide)) (g := (mkF m 31 #[rv aC, iv (0 : Int32), rv aB, iv (0 : Int32), iv (2 : Int32), iv (0 : Int32), iv y0] [(.int y0.toInt8.toInt32), (.int (0 : Int32)), (.ref aB)])) rfl rfl (hb hby d2_31)
  have r75 : nar .byte y0.toInt8.toInt32 = y0.toInt8.toInt32 := own_nb _
  rw [r75] at W75
  have N75 := Fr.snoc X75 (Fr.nil _) f0
  have O76 : Ext Z.heap h75 := xw O0 W75 f0
  have V75 : Arv Z h75 aB kB .byte (2 : Int32) [(.int y0.toInt8.toInt32), (.int (0 : Int32))] (.int 0) := Arv.set A75 q75 S75 M75 H75 G75 (by first | rfl | exact fits_nar_byte y0.toInt8.toInt32 | (rw [← r75]; exact fits_nar_byte y0.toInt8.toInt32)) W75 0 (by decide) (Nat.le_of_ble_eq_true rfl)
  refine go s75 ?_
  show Ends p e below _ T75 (mkF m 32 #[rv aC, iv (0 : Int32), rv aB, iv (0 : Int32), iv (2 : Int32), iv (0 : Int32), iv y0] [])
  refine go (fun _ => XT.iincV X75.here hx rfl (1 : Int32) (hb hby d2_32) (by decide) rfl (l' := #[rv aC, iv (1 : Int32), rv aB, iv (0 : Int32), iv (2 : Int32), iv (0 : Int32), iv y0]) rfl) ?_
  refine go (fun _ => XT.iincV X75.here hx rfl (1 : Int32) (hb hby d2_35) (by decide) rfl (l' := #[rv aC, iv (1 : Int32), rv aB, iv (1 : Int32), iv (2 : Int32), iv (0 : Int32), iv y0]) rfl) ?_
  refine go (fun _ => XT.iincV X75.here hx rfl (1 : Int32) (hb hby d2_38) (by decide) rfl (l' := #[rv aC, iv (1 : Int32), rv aB, iv (1 : Int32), iv (2 : Int32), iv (1 : Int32), iv y0]) rfl) ?_
  refine go (fun _ => XS.goto X75.here hx rfl (pc0 := 41) (pc' := 3) rfl (hb hby d2_41) (by decide) (by decide)) ?_
  refine go (fun _ => XS.iload X75.here hx rfl (hb hby d2_3) rfl) ?_
  refine go (fun _ => XS.iload X75.here hx rfl (hb hby d2_5) rfl) ?_
  show Ends p e below _ T75 (mkF m 7 #[rv aC, iv (1 : Int32), rv aB, iv (1 : Int32), iv (2 : Int32), iv (1 : Int32), iv y0] [(.int (2 : Int32)), (.int (1 : Int32))])
  refine go (fun _ => XS.icmpNo X75.here hx rfl (hb hby d2_7) rfl (XT.ii_ge_f ((by decide) : (1 : Int32) < (2 : Int32)))) ?_
  show Ends p e below _ T75 (mkF m 10 #[rv aC, iv (1 : Int32), rv aB, iv (1 : Int32), iv (2 : Int32), iv (1 : Int32), iv y0] [])
  refine go (fun _ => XS.aloadN X75.here hx rfl (hb hby d2_10) rfl rfl) ?_
  refine go (fun _ => XS.iloadN X75.here hx rfl (hb hby d2_11) rfl) ?_
  show Ends p e below _ T75 (mkF m 12 #[rv aC, iv (1 : Int32), rv aB, iv (1 : Int32), iv (2 : Int32), iv (1 : Int32), iv y0] [(.int (1 : Int32)), (.ref aC)])
  have F77 := (Arv.other VC W75 ne0)
  obtain ⟨cl78, A78, -, S78, M78, H78, -⟩ := id F77
  have B78 := inb_of S78 (j := (1 : Int32)) (by decide)
  refine go (fun _ => X75.caload hx (j := (1 : Int32)) (v := (.int y1)) (by rw [e75]; exact A78.1) (State.isArrayOf_alike hZ.alike A78.2.1) A78.2.2 B78 (H78.at B78 rfl) (g := (mkF m 12 #[rv aC, iv (1 : Int32), rv aB, iv (1 : Int32), iv (2 : Int32), iv (1 : Int32), iv y0] [(.int (1 : Int32)), (.ref aC)])) rfl rfl (hb hby d2_12) _) ?_
  show Ends p e below _ T75 (mkF m 13 #[rv aC, iv (1 : Int32), rv aB, iv (1 : Int32), iv (2 : Int32), iv (1 : Int32), iv y0] [(.int y1)])
  refine go (fun _ => XS.istore X75.here hx rfl (hb hby d2_13) rfl (l' := #[rv aC, iv (1 : Int32), rv aB, iv (1 : Int32), iv (2 : Int32), iv (1 : Int32), iv y1]) rfl) ?_
  refine go (fun _ => XS.iload X75.here hx rfl (hb hby d2_15) rfl) ?_
  refine go (fun _ => XT.sipushV X75.here hx rfl (255 : Int32) (hb hby d2_17) (by decide)) ?_
  show Ends p e below _ T75 (mkF m 20 #[rv aC, iv (1 : Int32), rv aB, iv (1 : Int32), iv (2 : Int32), iv (1 : Int32), iv y1] [(.int (255 : Int32)), (.int y1)])
  refine go (fun _ => XS.icmpYes X75.here hx rfl (pc0 := 20) (pc' := 26) rfl (hb hby d2_20) rfl (XT.ii_le_t l1) (by decide) (by decide)) ?_
  show Ends p e below _ T75 (mkF m 26 #[rv aC, iv (1 : Int32), rv aB, iv (1 : Int32), iv (2 : Int32), iv (1 : Int32), iv y1] [])
  refine go (fun _ => XS.aloadN X75.here hx rfl (hb hby d2_26) rfl rfl) ?_
  refine go (fun _ => XS.iloadN X75.here hx rfl (hb hby d2_27) rfl) ?_
  refine go (fun _ => XS.iload X75.here hx rfl (hb hby d2_28) rfl) ?_
  refine go (fun _ => XT.i2b X75.here hx rfl (hb hby d2_30) rfl) ?_
  show Ends p e below _ T75 (mkF m 31 #[rv aC, iv (1 : Int32), rv aB, iv (1 : Int32), iv (2 : Int32), iv (1 : Int32), iv y1] [(.int y1.toInt8.toInt32), (.int (1 : Int32)), (.ref aB)])
  obtain ⟨cl79, A79, q79, S79, M79, H79, G79⟩ := id V75
  obtain ⟨T79, h79, X79, e79, W79, s79⟩ := stB X75 hx hZ e75 A79 (j := (1 : Int32)) (inb_of S79 (by decide)) (g := (mkF m 31 #[rv aC, iv (1 : Int32), rv aB, iv (1 : Int32), iv (2 : Int32), iv (1 : Int32), iv y1] [(.int y1.toInt8.toInt32), (.int (1 : Int32)), (.ref aB)])) rfl rfl (hb hby d2_31)
  have r79 : nar .byte y1.toInt8.toInt32 = y1.toInt8.toInt32 := own_nb _
  rw [r79] at W79
  have N79 := Fr.snoc X79 N75 f0
  have O80 : Ext Z.heap h79 := xw O76 W79 f0
  have V79 : Arv Z h79 aB kB .byte (2 : Int32) [(.int y0.toInt8.toInt32), (.int y1.toInt8.toInt32)] (.int 0) := Arv.set A79 q79 S79 M79 H79 G79 (by first | rfl | exact fits_nar_byte y1.toInt8.toInt32 | (rw [← r79]; exact fits_nar_byte y1.toInt8.toInt32)) W79 1 (by decide) (Nat.le_of_ble_eq_true rfl)
  refine go s79 ?_
  show Ends p e below _ T79 (mkF m 32 #[rv aC, iv (1 : Int32), rv aB, iv (1 : Int32), iv (2 : Int32), iv (1 : Int32), iv y1] [])
  refine go (fun _ => XT.iincV X79.here hx rfl (1 : Int32) (hb hby d2_32) (by decide) rfl (l' := #[rv aC, iv (2 : Int32), rv aB, iv (1 : Int32), iv (2 : Int32), iv (1 : Int32), iv y1]) rfl) ?_
  refine go (fun _ => XT.iincV X79.here hx rfl (1 : Int32) (hb hby d2_35) (by decide) rfl (l' := #[rv aC, iv (2 : Int32), rv aB, iv (2 : Int32), iv (2 : Int32), iv (1 : Int32), iv y1]) rfl) ?_
  refine go (fun _ => XT.iincV X79.here hx rfl (1 : Int32) (hb hby d2_38) (by decide) rfl (l' := #[rv aC, iv (2 : Int32), rv aB, iv (2 : Int32), iv (2 : Int32), iv (2 : Int32), iv y1]) rfl) ?_
  refine go (fun _ => XS.goto X79.here hx rfl (pc0 := 41) (pc' := 3) rfl (hb hby d2_41) (by decide) (by decide)) ?_
  refine go (fun _ => XS.iload X79.here hx rfl (hb hby d2_3) rfl) ?_
  refine go (fun _ => XS.iload X79.here hx rfl (hb hby d2_5) rfl) ?_
  show Ends p e below _ T79 (mkF m 7 #[rv aC, iv (2 : Int32), rv aB, iv (2 : Int32), iv (2 : Int32), iv (2 : Int32), iv y1] [(.int (2 : Int32)), (.int (2 : Int32))])
  refine go (fun _ => XS.icmpYes X79.here hx rfl (pc0 := 7) (pc' := 44) rfl (hb hby d2_7) rfl (XT.ii_ge_t ((by decide) : ¬ ((2 : Int32) < (2 : Int32)))) (by decide) (by decide)) ?_
  show Ends p e below _ T79 (mkF m 44 #[rv aC, iv (2 : Int32), rv aB, iv (2 : Int32), iv (2 : Int32), iv (2 : Int32), iv y1] [])
  refine go (fun _ => XS.iload X79.here hx rfl (hb hby d2_44) rfl) ?_
  show Ends p e below _ T79 (mkF m 46 #[rv aC, iv (2 : Int32), rv aB, iv (2 : Int32), iv (2 : Int32), iv (2 : Int32), iv y1] [(.int (2 : Int32))])
  have K81 : Keep h0 h79 [aB] := (Keep.wr (Keep.wr (Keep.refl _ _) W75 (Or.inl (List.mem_of_getElem? (i := 0) rfl))) W79 (Or.inl (List.mem_of_getElem? (i := 0) rfl)))
  exact endI X79 hx hret (hb hby d2_46) (lvN X79 hlk e79 (fun h => by rw [hret] at h; cases h) ⟨rfl, N79, K81, V79⟩ (by decide) (by decide))
set_option maxRecDepth 65536 in
set_option maxHeartbeats 40000000 in
theorem rm_cmp3_2 {l : Launch} {Z : State} {a0 : Array Value} (hw : ∀ d ∈ tables_1, d.before a0 Z = true) (aC : Addr) (kC : ClassId) (y0 y1 : Int32)  (h0 : Heap) (O0 : Ext Z.heap h0) (VC : Arv Z h0 aC kC .char (2 : Int32) [(.int y0), (.int y1)] (.int 0)) (l0 : ¬ (255 : Int32) < y0) (l1 : ¬ (255 : Int32) < y1) :
    Con l (⟨"java/lang/StringUTF16", "compress", "([CII)[B"⟩ : MethodName) jdk_52_method_16_code 6 (some (.array .byte)) ({ frames := 1, cells := 1, slots := 2, locals := 18 } : Room) Z #[(.ref aC), (.int (0 : Int32)), (.int (2 : Int32))] h0 (fun v h L => ∃ (b : Addr) (k : ClassId), v = some (.ref b) ∧ Fr Z.heap.size L ∧ Keep h0 h [] ∧ h0.size ≤ b ∧ Arv Z h b k .byte (2 : Int32) [(.int y0.toInt8.toInt32), (.int y1.toInt8.toInt32)] (.int 0)) := by
  refine Con.of (plainFor_of_name pn_2) (Ls := #[rv aC, iv (0 : Int32), iv (2 : Int32), .unset, .unset, .unset]) (fun m => efOf rfl) ?_
  intro p e s m below meth c T0 X0 hx hZ hby hml hown hnm hret hlk e0
  refine go (fun _ => XS.iloadN X0.here hx rfl (hb hby d3_0) rfl) ?_
  show Ends p e below _ T0 (mkF m 1 #[rv aC, iv (0 : Int32), iv (2 : Int32), .unset, .unset, .unset] [(.int (2 : Int32))])
  obtain ⟨T82, h82, k82, X82, e82, E82, A82, s82⟩ := newP X0 hx hZ (hwi hw 23 rfl) e0 (g := (mkF m 1 #[rv aC, iv (0 : Int32), iv (2 : Int32), .unset, .unset, .unset] [(.int (2 : Int32))])) rfl (hb hby d3_1) rfl (by decide) (cap := 2) (by decide) (by decide) (by decide) (by decide)
  obtain ⟨a82, g82⟩ : ∃ z : Addr, z = h0.size := ⟨_, rfl⟩
  have n83 : aC ≠ a82 := fun q => absurd (VC.lt) (by rw [q, g82]; exact Nat.lt_irrefl _)
  have f82 : Z.heap.size ≤ a82 := by rw [g82]; exact (O0).1
  have K84 : Keep h0 h0 [] := (Keep.refl _ _)
  have b82 : h0.size ≤ a82 := by rw [g82]; exact (K84).1
  rw [← g82] at A82 s82
  have O85 : Ext Z.heap h82 := xx O0 E82
  have V82 : Arv Z h82 a82 k82 .byte (2 : Int32) [(.int (0 : Int32)), (.int (0 : Int32))] (.int 0) := Arv.pad (Arv.new A82 (by decide)) (pad_rep [] _ 2)
  refine go s82 ?_
  show Ends p e below _ T82 (mkF m 3 #[rv aC, iv (0 : Int32), iv (2 : Int32), .unset, .unset, .unset] [(.ref a82)])
  refine go (fun _ => XS.astoreN X82.here hx rfl (hb hby d3_3) rfl rfl (l' := #[rv aC, iv (0 : Int32), iv (2 : Int32), rv a82, .unset, .unset]) rfl) ?_
  refine go (fun _ => XS.aloadN X82.here hx rfl (hb hby d3_4) rfl rfl) ?_
  refine go (fun _ => XS.iloadN X82.here hx rfl (hb hby d3_5) rfl) ?_
  refine go (fun _ => XS.aloadN X82.here hx rfl (hb hby d3_6) rfl rfl) ?_
  refine go (fun _ => XT.iconstV X82.here hx rfl (0 : Int32) (hb hby d3_7) (by decide)) ?_
  refine go (fun _ => XS.iloadN X82.here hx rfl (hb hby d3_8) rfl) ?_
  show Ends p e below _ T82 (mkF m 9 #[rv aC, iv (0 : Int32), iv (2 : Int32), rv a82, .unset, .unset] [(.int (2 : Int32)), (.int (0 : Int32)), (.ref a82), (.int (0 : Int32)), (.ref aC)])
  have F86 := (Arv.ext VC E82)
  refine cStat X82 hx hZ hown (by rw [hml]; rfl) e82 (hwi hw 24 rfl) (hwi hw 25 rfl) (hwi hw 21 rfl) (hwi hw 26 rfl) [(.ref aC), (.int (0 : Int32)), (.ref a82), (.int (0 : Int32)), (.int (2 : Int32))] [] rfl (rm_cmp5_2 hw aC a82 kC k82 y0 y1 _ O85 f82 n83 F86 V82 l0 l1) (hb hby d3_9) rfl (lenOf pd_3 rfl) (by decide) (by decide) (Nat.le_of_ble_eq_true rfl) (by decide) (by decide) ?_
  rintro v87 T87 h87 L87 X87 e87 ⟨rfl, N87, K87, V87⟩
  have N87a := Fr.app (Fr.nil _) N87
  have O88 : Ext Z.heap h87 := xk O85 K87 (allS f82 all0)
  show Ends p e below _ T87 (mkF m 12 #[rv aC, iv (0 : Int32), iv (2 : Int32), rv a82, .unset, .unset] [(.int (2 : Int32))])
  refine go (fun _ => XS.istore X87.here hx rfl (hb hby d3_12) rfl (l' := #[rv aC, iv (0 : Int32), iv (2 : Int32), rv a82, iv (2 : Int32), .unset]) rfl) ?_
  refine go (fun _ => XS.iload X87.here hx rfl (hb hby d3_14) rfl) ?_
  refine go (fun _ => XS.iloadN X87.here hx rfl (hb hby d3_16) rfl) ?_
  show Ends p e below _ T87 (mkF m 17 #[rv aC, iv (0 : Int32), iv (2 : Int32), rv a82, iv (2 : Int32), .unset] [(.int (2 : Int32)), (.int (2 : Int32))])
  refine go (fun _ => XS.icmpYes X87.here hx rfl (pc0 := 17) (pc' := 57) rfl (hb hby d3_17) rfl (XT.ii_eq_t ((by decide) : (2 : Int32) = (2 : Int32))) (by decide) (by decide)) ?_
  show Ends p e below _ T87 (mkF m 57 #[rv aC, iv (0 : Int32), iv (2 : Int32), rv a82, iv (2 : Int32), .unset] [])
  refine go (fun _ => XS.aloadN X87.here hx rfl (hb hby d3_57) rfl rfl) ?_
  show Ends p e below _ T87 (mkF m 58 #[rv aC, iv (0 : Int32), iv (2 : Int32), rv a82, iv (2 : Int32), .unset] [(.ref a82)])
  have K89 : Keep h0 h87 [] := (Keep.trans (Keep.ext K84 E82) K87 (allS (Or.inr b82) all0))
  exact endA X87 hx hret rfl rfl (hb hby d3_58) (lvN X87 hlk e87 (fun h => by rw [hret] at h; cases h) ⟨a82, _, rfl, N87a, K89, b82, V87⟩ (by decide) (by decide))
set_option maxRecDepth 65536 in
set_option maxHeartbeats 40000000 in
theorem rm_coder_2 {l : Launch} {Z : State} {a0 : Array Value} (hw : ∀ d ∈ tables_1, d.before a0 Z = true) (aB : Addr) (kB : ClassId) (vs : List Value) (h0 : Heap) (VB : Arv Z h0 aB kB .byte (2 : Int32) vs (.int 0)) :
    Con l (⟨"java/lang/StringUTF16", "coderFromArrayLen", "([BI)B"⟩ : MethodName) jdk_52_method_15_code 2 (some .byte) ({ frames := 0, cells := 0, slots := 0, locals := 0 } : Room) Z #[(.ref aB), (.int (2 : Int32))] h0 (fun v h L => v = some (.int 0) ∧ Fr Z.heap.size L ∧ h0 = h) := by
  refine Con.of (plainFor_of_name pn_2) (Ls := #[rv aB, iv (2 : Int32)]) (fun m => efOf rfl) ?_
  intro p e s m below meth c T0 X0 hx hZ hby hml hown hnm hret hlk e0
  refine go (fun _ => XS.iloadN X0.here hx rfl (hb hby d4_0) rfl) ?_
  refine go (fun _ => XS.aloadN X0.here hx rfl (hb hby d4_1) rfl rfl) ?_
  show Ends p e below _ T0 (mkF m 2 #[rv aB, iv (2 : Int32)] [(.ref aB), (.int (2 : Int32))])
  obtain ⟨cl90, A90, -, S90, M90, -⟩ := id VB
  refine go (fun _ => X0.arraylength hx (cell := cl90) (by rw [e0]; exact A90.1) (State.isArrayOf_alike hZ.alike A90.2.1) (g := (mkF m 2 #[rv aB, iv (2 : Int32)] [(.ref aB), (.int (2 : Int32))])) rfl rfl (hb hby d4_2) _) ?_
  rw [len_of S90 M90]
  show Ends p e below _ T0 (mkF m 3 #[rv aB, iv (2 : Int32)] [(.int (2 : Int32)), (.int (2 : Int32))])
  refine go (fun _ => XS.isub X0.here hx rfl (hb hby d4_3) rfl) ?_
  refine go (fun _ => XT.bipushV X0.here hx rfl (31 : Int32) (hb hby d4_4) (by decide)) ?_
  refine go (fun _ => XT.iushr X0.here hx rfl (hb hby d4_6) rfl) ?_
  refine go (fun _ => XT.i2b X0.here hx rfl (hb hby d4_7) rfl) ?_
  show Ends p e below _ T0 (mkF m 8 #[rv aB, iv (2 : Int32)] [(.int (0 : Int32))])
  exact endN X0 hx hret (by simp) (hb hby d4_8) (lvN X0 hlk e0 (fun h => by rw [hret] at h; cases h) ⟨rfl, (Fr.nil _), rfl⟩ (by decide) (by decide))
set_option maxRecDepth 65536 in
set_option maxHeartbeats 40000000 in
theorem rm_new4_2 {l : Launch} {Z : State} {a0 : Array Value} (hw : ∀ d ∈ tables_1, d.before a0 Z = true) (a aC : Addr) (kC : ClassId) (y0 y1 : Int32)  (h0 : Heap) (O0 : Ext Z.heap h0) (f0 : Z.heap.size ≤ a) (ne0 : a ≠ aC) (E0 : Exa Z h0 a "java/lang/String") (FV : Fld Z h0 a "java/lang/String" "value" "[B" .null) (FC : Fld Z h0 a "java/lang/String" "coder" "B" (.int 0)) (cz : Int32) (SCS : Sta Z Z.heap "java/lang/String" "COMPACT_STRINGS" "Z" (.int cz)) (hcz : ¬ cz = (0 : Int32)) (VC : Arv Z h0 aC kC .char (2 : Int32) [(.int y0), (.int y1)] (.int 0)) (l0 : ¬ (255 : Int32) < y0) (l1 : ¬ (255 : Int32) < y1) :
    Con l (⟨"java/lang/String", "<init>", "([CIILjava/lang/Void;)V"⟩ : MethodName) jdk_42_method_149_code 6 none ({ frames := 2, cells := 1, slots := 2, locals := 35 } : Room) Z #[(.ref a), (.ref aC), (.int (0 : Int32)), (.int (2 : Int32)), .null] h0 (fun v h L => ∃ (b : Addr) (k : ClassId), v = none ∧ Fr Z.heap.size L ∧ Keep h0 h [a] ∧ h0.size ≤ b ∧ Fld Z h a "java/lang/String" "value" "[B" (.ref b) ∧ Fld Z h a "java/lang/String" "coder" "B" (.int 0) ∧ Arv Z h b k .byte (2 : Int32) [(.int y0.toInt8.toInt32), (.int y1.toInt8.toInt32)] (.int 0)) := by
  refine Con.of (plainFor_of_name pn_0) (Ls := #[rv a, rv aC, iv (0 : Int32), iv (2 : Int32), .val .null, .unset]) (fun m => efOf rfl) ?_
  intro p e s m below meth c T0 X0 hx hZ hby hml hown hnm hret hlk e0
  refine go (fun _ => XS.aloadN X0.here hx rfl (hb hby d0_0) rfl rfl) ?_
  show Ends p e below _ T0 (mkF m 1 #[rv a, rv aC, iv (0 : Int32), iv (2 : Int32), .val .null, .unset] [(.ref a)])
  obtain ⟨T91, X91, e91, s91⟩ := initO X0 hx hZ hown (hwi hw 15 rfl) (hwi hw 16 rfl) (hwi hw 17 rfl) e0 (g := (mkF m 1 #[rv a, rv aC, iv (0 : Int32), iv (2 : Int32), .val .null, .unset] [(.ref a)])) rfl (by rw [hml]; rfl) rfl (hb hby d0_1) (by decide) (W := 0) (by show 2 * 0 + _ ≤ _; exact Nat.le_of_eq rfl) (by decide)
  refine go s91 ?_
  show Ends p e below _ T91 (mkF m 4 #[rv a, rv aC, iv (0 : Int32), iv (2 : Int32), .val .null, .unset] [])
  refine go (fun _ => XS.iloadN X91.here hx rfl (hb hby d0_4) rfl) ?_
  show Ends p e below _ T91 (mkF m 5 #[rv a, rv aC, iv (0 : Int32), iv (2 : Int32), .val .null, .unset] [(.int (2 : Int32))])
  refine go (fun _ => XS.ifYes X91.here hx rfl (pc0 := 5) (pc' := 27) rfl (hb hby d0_5) rfl (XT.i0_ne_t ((by decide) : ¬ ((2 : Int32) = (0 : Int32)))) (by decide) (by decide)) ?_
  show Ends p e below _ T91 (mkF m 27 #[rv a, rv aC, iv (0 : Int32), iv (2 : Int32), .val .null, .unset] [])
  obtain ⟨T92, X92, e92, s92⟩ := getS2 X91 hx hZ hown (host := "") (Or.inl (hwi hw 18 rfl)) Via.refl e91 (Sta.ext O0 SCS) (g := (mkF m 27 #[rv a, rv aC, iv (0 : Int32), iv (2 : Int32), .val .null, .unset] [])) rfl (hb hby d0_27)
  refine go s92 ?_
  show Ends p e below _ T92 (mkF m 30 #[rv a, rv aC, iv (0 : Int32), iv (2 : Int32), .val .null, .unset] [(.int cz)])
  refine go (fun _ => XS.ifNo X92.here hx rfl (hb hby d0_30) rfl (XT.i0_eq_f hcz)) ?_
  show Ends p e below _ T92 (mkF m 33 #[rv a, rv aC, iv (0 : Int32), iv (2 : Int32), .val .null, .unset] [])
  refine go (fun _ => XS.aloadN X92.here hx rfl (hb hby d0_33) rfl rfl) ?_
  refine go (fun _ => XS.iloadN X92.here hx rfl (hb hby d0_34) rfl) ?_
  refine go (fun _ => XS.iloadN X92.here hx rfl (hb hby d0_35) rfl) ?_
  show Ends p e below _ T92 (mkF m 36 #[rv a, rv aC, iv (0 : Int32), iv (2 : Int32), .val .null, .unset] [(.int (2 : Int32)), (.int (0 : Int32)), (.ref aC)])
  refine cStat X92 hx hZ hown (by rw [hml]; rfl) e92 (hwi hw 19 rfl) (hwi hw 20 rfl) (hwi hw 21 rfl) (hwi hw 22 rfl) [(.ref aC), (.int (0 : Int32)), (.int (2 : Int32))] [] rfl (rm_cmp3_2 hw aC kC y0 y1 _ O0 VC l0 l1) (hb hby d0_36) rfl (lenOf pd_4 rfl) (by decide) (by decide) (Nat.le_of_ble_eq_true rfl) (by decide) (by decide) ?_
  rintro v93 T93 h93 L93 X93 e93 ⟨b93, k93, rfl, N93, K93, g93, V93⟩
  have N93a := Fr.app (Fr.nil _) N93
  have n94 : a ≠ b93 := Nat.ne_of_lt (Nat.lt_of_lt_of_le (E0.lt) g93)
  have n95 : aC ≠ b93 := Nat.ne_of_lt (Nat.lt_of_lt_of_le (VC.lt) g93)
  have f96 : Z.heap.size ≤ b93 := Nat.le_trans (O0).1 g93
  have K97 : Keep h0 h0 [a] := (Keep.refl _ _)
  have b96 : h0.size ≤ b93 := Nat.le_trans (K97).1 g93
  have O98 : Ext Z.heap h93 := xk O0 K93 all0
  show Ends p e below _ T93 (mkF m 39 #[rv a, rv aC, iv (0 : Int32), iv (2 : Int32), .val .null, .unset] [(.ref b93)])
  refine go (fun _ => XS.astore X93.here hx rfl (hb hby d0_39) rfl rfl (l' := #[rv a, rv aC, iv (0 : Int32), iv (2 : Int32), .val .null, rv b93]) rfl) ?_
  refine go (fun _ => XS.aloadN X93.here hx rfl (hb hby d0_41) rfl rfl) ?_
  refine go (fun _ => XS.aload X93.here hx rfl (hb hby d0_42) rfl rfl) ?_
  refine go (fun _ => XS.iloadN X93.here hx rfl (hb hby d0_44) rfl) ?_
  show Ends p e below _ T93 (mkF m 45 #[rv a, rv aC, iv (0 : Int32), iv (2 : Int32), .val .null, rv b93] [(.int (2 : Int32)), (.ref b93), (.ref a)])
  refine cStat X93 hx hZ hown (by rw [hml]; rfl) e93 (hwi hw 27 rfl) (hwi hw 28 rfl) (hwi hw 21 rfl) (hwi hw 29 rfl) [(.ref b93), (.int (2 : Int32))] [(.ref a)] rfl (rm_coder_2 hw b93 _ _ _ V93) (hb hby d0_45) rfl (lenOf pd_5 rfl) (by decide) (by decide) (Nat.le_of_ble_eq_true rfl) (by decide) (by decide) ?_
  rintro v99 T99 h99 L99 X99 e99 ⟨rfl, N99, rfl⟩
  have N99a := Fr.app N93a N99
  show Ends p e below _ T99 (mkF m 48 #[rv a, rv aC, iv (0 : Int32), iv (2 : Int32), .val .null, rv b93] [(.int (0 : Int32)), (.ref a)])
  have F100 := (Exa.keep E0 K93)
  have F101 := (Fld.keep FC K93 nin0)
  obtain ⟨T102, h102, X102, e102, W102, s102⟩ := putF X99 hx hZ hown (host := "") (Or.inl (hwi hw 30 rfl)) Via.refl e99 F101 F100 (Or.inr ⟨(hwi hw 31 rfl), rfl, hnm⟩) (hwi hw 5 rfl) (ty := .byte) (by decide) rfl rfl (g := (mkF m 48 #[rv a, rv aC, iv (0 : Int32), iv (2 : Int32), .val .null, rv b93] [(.int (0 : Int32)), (.ref a)])) rfl rfl (hb hby d0_48)
  have N102 := Fr.snoc X102 N99a f0
  have O103 : Ext Z.heap h102 := xw O98 W102 f0
  refine go s102 ?_
  show Ends p e below _ T102 (mkF m 51 #[rv a, rv aC, iv (0 : Int32), iv (2 : Int32), .val .null, rv b93] [])
  refine go (fun _ => XS.aloadN X102.here hx rfl (hb hby d0_51) rfl rfl) ?_
  refine go (fun _ => XS.aload X102.here hx rfl (hb hby d0_52) rfl rfl) ?_
  show Ends p e below _ T102 (mkF m 54 #[rv a, rv aC, iv (0 : Int32), iv (2 : Int32), .val .null, rv b93] [(.ref b93), (.ref a)])
  have F104 := (Exa.wr W102 F100)
  have F105 := (Fld.other W102 (Fld.keep FV K93 nin0) (Or.inr (slot_ne (a0 := a0) (Or.inr (hwi hw 33 rfl)) (Or.inr (hwi hw 31 rfl)) (by decide) (t := (.array .byte)) (t' := .byte) (by decide) (by decide))))
  obtain ⟨T106, h106, X106, e106, W106, s106⟩ := putF X102 hx hZ hown (host := "") (Or.inl (hwi hw 32 rfl)) Via.refl e102 F105 F104 (Or.inr ⟨(hwi hw 33 rfl), rfl, hnm⟩) (hwi hw 5 rfl) (ty := (.array .byte)) (by decide) rfl rfl (g := (mkF m 54 #[rv a, rv aC, iv (0 : Int32), iv (2 : Int32), .val .null, rv b93] [(.ref b93), (.ref a)])) rfl rfl (hb hby d0_54)
  have N106 := Fr.snoc X106 N102 f0
  have O107 : Ext Z.heap h106 := xw O103 W106 f0
  refine go s106 ?_
  show Ends p e below _ T106 (mkF m 57 #[rv a, rv aC, iv (0 : Int32), iv (2 : Int32), .val .null, rv b93] [])
  have K108 : Keep h0 h106 [a] := (Keep.wr (Keep.wr (Keep.trans K97 K93 all0) W102 (Or.inl (List.mem_of_getElem? (i := 0) rfl))) W106 (Or.inl (List.mem_of_getElem? (i := 0) rfl)))
  have F109 := (Fld.same W106 F105)
  have F110 := (Fld.other W106 (Fld.same W102 F101) (Or.inr (slot_ne (a0 := a0) (Or.inr (hwi hw 31 rfl)) (Or.inr (hwi hw 33 rfl)) (by decide) (t := .byte) (t' := (.array .byte)) (by decide) (by decide))))
  have F111 := (Arv.other (Arv.other V93 W102 (Ne.symm n94)) W106 (Ne.symm n94))
  exact endV X106 hx hret (hb hby d0_57) (lvN X106 hlk e106 (fun _ => rfl) ⟨b93, _, rfl, N106, K108, b96, F109, F110, F111⟩ (by decide) (by decide))
set_option maxRecDepth 65536 in
set_option maxHeartbeats 40000000 in
theorem rm_new1_2 {l : Launch} {Z : State} {a0 : Array Value} (hw : ∀ d ∈ tables_1, d.before a0 Z = true) (a aC : Addr) (kC : ClassId) (y0 y1 : Int32)  (h0 : Heap) (O0 : Ext Z.heap h0) (f0 : Z.heap.size ≤ a) (ne0 : a ≠ aC) (E0 : Exa Z h0 a "java/lang/String") (FV : Fld Z h0 a "java/lang/String" "value" "[B" .null) (FC : Fld Z h0 a "java/lang/String" "coder" "B" (.int 0)) (cz : Int32) (SCS : Sta Z Z.heap "java/lang/String" "COMPACT_STRINGS" "Z" (.int cz)) (hcz : ¬ cz = (0 : Int32)) (VC : Arv Z h0 aC kC .char (2 : Int32) [(.int y0), (.int y1)] (.int 0)) (l0 : ¬ (255 : Int32) < y0) (l1 : ¬ (255 : Int32) < y1) :
    Con l (⟨"java/lang/String", "<init>", "([C)V"⟩ : MethodName) jdk_42_method_3_code 2 none ({ frames := 3, cells := 1, slots := 2, locals := 52 } : Room) Z #[(.ref a), (.ref aC)] h0 (fun v h L => ∃ (b : Addr) (k : ClassId), v = none ∧ Fr Z.heap.size L ∧ Keep h0 h [a] ∧ h0.size ≤ b ∧ Fld Z h a "java/lang/String" "value" "[B" (.ref b) ∧ Fld Z h a "java/lang/String" "coder" "B" (.int 0) ∧ Arv Z h b k .byte (2 : Int32) [(.int y0.toInt8.toInt32), (.int y1.toInt8.toInt32)] (.int 0)) := by
  refine Con.of (plainFor_of_name pn_0) (Ls := #[rv a, rv aC]) (fun m => efOf rfl) ?_
  intro p e s m below meth c T0 X0 hx hZ hby hml hown hnm hret hlk e0
  refine go (fun _ => XS.aloadN X0.here hx rfl (hb hby d1_0) rfl rfl) ?_
  refine go (fun _ => XS.aloadN X0.here hx rfl (hb hby d1_1) rfl rfl) ?_
  refine go (fun _ => XT.iconstV X0.here hx rfl (0 : Int32) (hb hby d1_2) (by decide)) ?_
  refine go (fun _ => XS.aloadN X0.here hx rfl (hb hby d1_3) rfl rfl) ?_
  show Ends p e below _ T0 (mkF m 4 #[rv a, rv aC] [(.ref aC), (.int (0 : Int32)), (.ref aC), (.ref a)])
  obtain ⟨cl112, A112, -, S112, M112, -⟩ := id VC
  refine go (fun _ => X0.arraylength hx (cell := cl112) (by rw [e0]; exact A112.1) (State.isArrayOf_alike hZ.alike A112.2.1) (g := (mkF m 4 #[rv a, rv aC] [(.ref aC), (.int (0 : Int32)), (.ref aC), (.ref a)])) rfl rfl (hb hby d1_4) _) ?_
  rw [len_of S112 M112]
  show Ends p e below _ T0 (mkF m 5 #[rv a, rv aC] [(.int (2 : Int32)), (.int (0 : Int32)), (.ref aC), (.ref a)])
  refine go (fun _ => XS.aconstNull X0.here hx rfl (hb hby d1_5)) ?_
  show Ends p e below _ T0 (mkF m 6 #[rv a, rv aC] [.null, (.int (2 : Int32)), (.int (0 : Int32)), (.ref aC), (.ref a)])
  refine cInit X0 hx hZ hown (by rw [hml]; rfl) e0 (hwi hw 11 rfl) (hwi hw 12 rfl) (hwi hw 6 rfl) (hwi hw 14 rfl) a [(.ref aC), (.int (0 : Int32)), (.int (2 : Int32)), .null] [] rfl (rm_new4_2 hw a aC kC y0 y1 _ O0 f0 ne0 E0 FV FC cz SCS hcz VC l0 l1) (hb hby d1_6) rfl (lenOf pd_1 rfl) rfl (by decide) (by decide) (Nat.le_of_ble_eq_true rfl) (by decide) (by decide) ?_
  rintro v113 T113 h113 L113 X113 e113 ⟨b113, k113, rfl, N113, K113, g113, Fv113, Fc113, V113⟩
  have N113a := Fr.app (Fr.nil _) N113
  have n114 : a ≠ b113 := Nat.ne_of_lt (Nat.lt_of_lt_of_le (E0.lt) g113)
  have n115 : aC ≠ b113 := Nat.ne_of_lt (Nat.lt_of_lt_of_le (VC.lt) g113)
  have f116 : Z.heap.size ≤ b113 := Nat.le_trans (O0).1 g113
  have K117 : Keep h0 h0 [a] := (Keep.refl _ _)
  have b116 : h0.size ≤ b113 := Nat.le_trans (K117).1 g113
  have O118 : Ext Z.heap h113 := xk O0 K113 (allS f0 all0)
  show Ends p e below _ T113 (mkF m 9 #[rv a, rv aC] [])
  have K119 : Keep h0 h113 [a] := (Keep.trans K117 K113 (allS (Or.inl (List.mem_of_getElem? (i := 0) rfl)) all0))
  exact endV X113 hx hret (hb hby d1_9) (lvN X113 hlk e113 (fun _ => rfl) ⟨b113, _, rfl, N113a, K119, b116, Fv113, Fc113, V113⟩ (by decide) (by decide))
set_option maxRecDepth 65536 in
set_option maxHeartbeats 40000000 in
theorem rm_cmp5_3 {l : Launch} {Z : State} {a0 : Array Value} (hw : ∀ d ∈ tables_1, d.before a0 Z = true) (aC aB : Addr) (kC kB : ClassId) (y0 y1 y2 : Int32)  (h0 : Heap) (O0 : Ext Z.heap h0) (f0 : Z.heap.size ≤ aB) (ne0 : aC ≠ aB) (VC : Arv Z h0 aC kC .char (3 : Int32) [(.int y0), (.int y1), (.int y2)] (.int 0)) (VB : Arv Z h0 aB kB .byte (3 : Int32) [(.int (0 : Int32)), (.int (0 : Int32)), (.int (0 : Int32))] (.int 0)) (l0 : ¬ (255 : Int32) < y0) (l1 : ¬ (255 : Int32) < y1) (l2 : ¬ (255 : Int32) < y2) :
    Con l (⟨"java/lang/StringUTF16", "compress", "([CI[BII)I"⟩ : MethodName) jdk_52_method_21_code 7 (some .int) ({ frames := 0, cells := 0, slots := 0, locals := 0 } : Room) Z #[(.ref aC), (.int (0 : Int32)), (.ref aB), (.int (0 : Int32)), (.int (3 : Int32))] h0 (fun v h L => v = some (.int (3 : Int32)) ∧ Fr Z.heap.size L ∧ Keep h0 h [aB] ∧ Arv Z h aB kB .byte (3 : Int32) [(.int y0.toInt8.toInt32), (.int y1.toInt8.toInt32), (.int y2.toInt8.toInt32)] (.int 0)) := by
  refine Con.of (plainFor_of_name pn_2) (Ls := #[rv aC, iv (0 : Int32), rv aB, iv (0 : Int32), iv (3 : Int32), .unset, .unset]) (fun m => efOf rfl) ?_
  intro p e s m below meth c T0 X0 hx hZ hby hml hown hnm hret hlk e0
  refine go (fun _ => XT.iconstV X0.here hx rfl (0 : Int32) (hb hby d2_0) (by decide)) ?_
  refine go (fun _ => XS.istore X0.here hx rfl (hb hby d2_1) rfl (l' := #[rv aC, iv (0 : Int32), rv aB, iv (0 : Int32), iv (3 : Int32), iv (0 : Int32), .unset]) rfl) ?_
  refine go (fun _ => XS.iload X0.here hx rfl (hb hby d2_3) rfl) ?_
  refine go (fun _ => XS.iload X0.here hx rfl (hb hby d2_5) rfl) ?_
  show Ends p e below _ T0 (mkF m 7 #[rv aC, iv (0 : Int32), rv aB, iv (0 : Int32), iv (3 : Int32), iv (0 : Int32), .unset] [(.int (3 : Int32)), (.int (0 : Int32))])
  refine go (fun _ => XS.icmpNo X0.here hx rfl (hb hby d2_7) rfl (XT.ii_ge_f ((by decide) : (0 : Int32) < (3 : Int32)))) ?_
  show Ends p e below _ T0 (mkF m 10 #[rv aC, iv (0 : Int32), rv aB, iv (0 : Int32), iv (3 : Int32), iv (0 : Int32), .unset] [])
  refine go (fun _ => XS.aloadN X0.here hx rfl (hb hby d2_10) rfl rfl) ?_
  refine go (fun _ => XS.iloadN X0.here hx rfl (hb hby d2_11) rfl) ?_
  show Ends p e below _ T0 (mkF m 12 #[rv aC, iv (0 : Int32), rv aB, iv (0 : Int32), iv (3 : Int32), iv (0 : Int32), .unset] [(.int (0 : Int32)), (.ref aC)])
  obtain ⟨cl120, A120, -, S120, M120, H120, -⟩ := id VC
  have B120 := inb_of S120 (j := (0 : Int32)) (by decide)
  refine go (fun _ => X0.caload hx (j := (0 : Int32)) (v := (.int y0)) (by rw [e0]; exact A120.1) (State.isArrayOf_alike hZ.alike A120.2.1) A120.2.2 B120 (H120.at B120 rfl) (g := (mkF m 12 #[rv aC, iv (0 : Int32), rv aB, iv (0 : Int32), iv (3 : Int32), iv (0 : Int32), .unset] [(.int (0 : Int32)), (.ref aC)])) rfl rfl (hb hby d2_12) _) ?_
  show Ends p e below _ T0 (mkF m 13 #[rv aC, iv (0 : Int32), rv aB, iv (0 : Int32), iv (3 : Int32), iv (0 : Int32), .unset] [(.int y0)])
  refine go (fun _ => XS.istore X0.here hx rfl (hb hby d2_13) rfl (l' := #[rv aC, iv (0 : Int32), rv aB, iv (0 : Int32), iv (3 : Int32), iv (0 : Int32), iv y0]) rfl) ?_
  refine go (fun _ => XS.iload X0.here hx rfl (hb hby d2_15) rfl) ?_
  refine go (fun _ => XT.sipushV X0.here hx rfl (255 : Int32) (hb hby d2_17) (by decide)) ?_
  show Ends p e below _ T0 (mkF m 20 #[rv aC, iv (0 : Int32), rv aB, iv (0 : Int32), iv (3 : Int32), iv (0 : Int32), iv y0] [(.int (255 : Int32)), (.int y0)])
  refine go (fun _ => XS.icmpYes X0.here hx rfl (pc0 := 20) (pc' := 26) rfl (hb hby d2_20) rfl (XT.ii_le_t l0) (by decide) (by decide)) ?_
  show Ends p e below _ T0 (mkF m 26 #[rv aC, iv (0 : Int32), rv aB, iv (0 : Int32), iv (3 : Int32), iv (0 : Int32), iv y0] [])
  refine go (fun _ => XS.aloadN X0.here hx rfl (hb hby d2_26) rfl rfl) ?_
  refine go (fun _ => XS.iloadN X0.here hx rfl (hb hby d2_27) rfl) ?_
  refine go (fun _ => XS.iload X0.here hx rfl (hb hby d2_28) rfl) ?_
  refine go (fun _ => XT.i2b X0.here hx rfl (hb hby d2_30) rfl) ?_
  show Ends p e below _ T0 (mkF m 31 #[rv aC, iv (0 : Int32), rv aB, iv (0 : Int32), iv (3 : Int32), iv (0 : Int32), iv y0] [(.int y0.toInt8.toInt32), (.int (0 : Int32)), (.ref aB)])
  obtain ⟨cl121, A121, q121, S121, M121, H121, G121⟩ := id VB
  obtain ⟨T121, h121, X121, e121, W121, s121⟩ := stB X0 hx hZ e0 A121 (j := (0 : Int32)) (inb_of S121 (by decide)) (g := (mkF m 31 #[rv aC, iv (0 : Int32), rv aB, iv (0 : Int32), iv (3 : Int32), iv (0 : Int32), iv y0] [(.int y0.toInt8.toInt32), (.int (0 : Int32)), (.ref aB)])) rfl rfl (hb hby d2_31)
  have r121 : nar .byte y0.toInt8.toInt32 = y0.toInt8.toInt32 := own_nb _
  rw [r121] at W121
  have N121 := Fr.snoc X121 (Fr.nil _) f0
  have O122 : Ext Z.heap h121 := xw O0 W121 f0
  have V121 : Arv Z h121 aB kB .byte (3 : Int32) [(.int y0.toInt8.toInt32), (.int (0 : Int32)), (.int (0 : Int32))] (.int 0) := Arv.set A121 q121 S121 M121 H121 G121 (by first | rfl | exact fits_nar_byte y0.toInt8.toInt32 | (rw [← r121]; exact fits_nar_byte y0.toInt8.toInt32)) W121 0 (by decide) (Nat.le_of_ble_eq_true rfl)
  refine go s121 ?_
  show Ends p e below _ T121 (mkF m 32 #[rv aC, iv (0 : Int32), rv aB, iv (0 : Int32), iv (3 : Int32), iv (0 : Int32), iv y0] [])
  refine go (fun _ => XT.iincV X121.here hx rfl (1 : Int32) (hb hby d2_32) (by decide) rfl (l' := #[rv aC, iv (1 : Int32), rv aB, iv (0 : Int32), iv (3 : Int32), iv (0 : Int32), iv y0]) rfl) ?_
  refine go (fun _ => XT.iincV X121.here hx rfl (1 : Int32) (hb hby d2_35) (by decide) rfl (l' := #[rv aC, iv (1 : Int32), rv aB, iv (1 : Int32), iv (3 : Int32), iv (0 : Int32), iv y0]) rfl) ?_
  refine go (fun _ => XT.iincV X121.here hx rfl (1 : Int32) (hb hby d2_38) (by decide) rfl (l' := #[rv aC, iv (1 : Int32), rv aB, iv (1 : Int32), iv (3 : Int32), iv (1 : Int32), iv y0]) rfl) ?_
  refine go (fun _ => XS.goto X121.here hx rfl (pc0 := 41) (pc' := 3) rfl (hb hby d2_41) (by decide) (by decide)) ?_
  refine go (fun _ => XS.iload X121.here hx rfl (hb hby d2_3) rfl) ?_
  refine go (fun _ => XS.iload X121.here hx rfl (hb hby d2_5) rfl) ?_
  show Ends p e below _ T121 (mkF m 7 #[rv aC, iv (1 : Int32), rv aB, iv (1 : Int32), iv (3 : Int32), iv (1 : Int32), iv y0] [(.int (3 : Int32)), (.int (1 : Int32))])
  refine go (fun _ => XS.icmpNo X121.here hx rfl (hb hby d2_7) rfl (XT.ii_ge_f ((by decide) : (1 : Int32) < (3 : Int32)))) ?_
  show Ends p e below _ T121 (mkF m 10 #[rv aC, iv (1 : Int32), rv aB, iv (1 : Int32), iv (3 : Int32), iv (1 : Int32), iv y0] [])
  refine go (fun _ => XS.aloadN X121.here hx rfl (hb hby d2_10) rfl rfl) ?_
  refine go (fun _ => XS.iloadN X121.here hx rfl (hb hby d2_11) rfl) ?_
  show Ends p e below _ T121 (mkF m 12 #[rv aC, iv (1 : Int32), rv aB, iv (1 : Int32), iv (3 : Int32), iv (1 : Int32), iv y0] [(.int (1 : Int32)), (.ref aC)])
  have F123 := (Arv.other VC W121 ne0)
  obtain ⟨cl124, A124, -, S124, M124, H124, -⟩ := id F123
  have B124 := inb_of S124 (j := (1 : Int32)) (by decide)
  refine go (fun _ => X121.caload hx (j := (1 : Int32)) (v := (.int y1)) (by rw [e121]; exact A124.1) (State.isArrayOf_alike hZ.alike A124.2.1) A124.2.2 B124 (H124.at B124 rfl) (g := (mkF m 12 #[rv aC, iv (1 : Int32), rv aB, iv (1 : Int32), iv (3 : Int32), iv (1 : Int32), iv y0] [(.int (1 : Int32)), (.ref aC)])) rfl rfl (hb hby d2_12) _) ?_
  show Ends p e below _ T121 (mkF m 13 #[rv aC, iv (1 : Int32), rv aB, iv (1 : Int32), iv (3 : Int32), iv (1 : Int32), iv y0] [(.int y1)])
  refine go (fun _ => XS.istore X121.here hx rfl (hb hby d2_13) rfl (l' := #[rv aC, iv (1 : Int32), rv aB, iv (1 : Int32), iv (3 : Int32), iv (1 : Int32), iv y1]) rfl) ?_
  refine go (fun _ => XS.iload X121.here hx rfl (hb hby d2_15) rfl) ?_
  refine go (fun _ => XT.sipushV X121.here hx rfl (255 : Int32) (hb hby d2_17) (by decide)) ?_
  show Ends p e below _ T121 (mkF m 20 #[rv aC, iv (1 : Int32), rv aB, iv (1 : Int32), iv (3 : Int32), iv (1 : Int32), iv y1] [(.int (255 : Int32)), (.int y1)])
  refine go (fun _ => XS.icmpYes X121.here hx rfl (pc0 := 20) (pc' := 26) rfl (hb hby d2_20) rfl (XT.ii_le_t l1) (by decide) (by decide)) ?_
  show Ends p e below _ T121 (mkF m 26 #[rv aC, iv (1 : Int32), rv aB, iv (1 : Int32), iv (3 : Int32), iv (1 : Int32), iv y1] [])
  refine go (fun _ => XS.aloadN X121.here hx rfl (hb hby d2_26) rfl rfl) ?_
  refine go (fun _ => XS.iloadN X121.here hx rfl (hb hby d2_27) rfl) ?_
  refine go (fun _ => XS.iload X121.here hx rfl (hb hby d2_28) rfl) ?_
  refine go (fun _ => XT.i2b X121.here hx rfl (hb hby d2_30) rfl) ?_
  show Ends p e below _ T121 (mkF m 31 #[rv aC, iv (1 : Int32), rv aB, iv (1 : Int32), iv (3 : Int32), iv (1 : Int32), iv y1] [(.int y1.toInt8.toInt32), (.int (1 : Int32)), (.ref aB)])
  obtain ⟨cl125, A125, q125, S125, M125, H125, G125⟩ := id V121
  obtain ⟨T125, h125, X125, e125, W125, s125⟩ := stB X121 hx hZ e121 A125 (j := (1 : Int32)) (inb_of S125 (by decide)) (g := (mkF m 31 #[rv aC, iv (1 : Int32), rv aB, iv (1 : Int32), iv (3 : Int32), iv (1 : Int32), iv y1] [(.int y1.toInt8.toInt32), (.int (1 : Int32)), (.ref aB)])) rfl rfl (hb hby d2_31)
  have r125 : nar .byte y1.toInt8.toInt32 = y1.toInt8.toInt32 := own_nb _
  rw [r125] at W125
  have N125 := Fr.snoc X125 N121 f0
  have O126 : Ext Z.heap h125 := xw O122 W125 f0
  have V125 : Arv Z h125 aB kB .byte (3 : Int32) [(.int y0.toInt8.toInt32), (.int y1.toInt8.toInt32), (.int (0 : Int32))] (.int 0) := Arv.set A125 q125 S125 M125 H125 G125 (by first | rfl | exact fits_nar_byte y1.toInt8.toInt32 | (rw [← r125]; exact fits_nar_byte y1.toInt8.toInt32)) W125 1 (by decide) (Nat.le_of_ble_eq_true rfl)
  refine go s125 ?_
  show Ends p e below _ T125 (mkF m 32 #[rv aC, iv (1 : Int32), rv aB, iv (1 : Int32), iv (3 : Int32), iv (1 : Int32), iv y1] [])
  refine go (fun _ => XT.iincV X125.here hx rfl (1 : Int32) (hb hby d2_32) (by decide) rfl (l' := #[rv aC, iv (2 : Int32), rv aB, iv (1 : Int32), iv (3 : Int32), iv (1 : Int32), iv y1]) rfl) ?_
  refine go (fun _ => XT.iincV X125.here hx rfl (1 : Int32) (hb hby d2_35) (by decide) rfl (l' := #[rv aC, iv (2 : Int32), rv aB, iv (2 : Int32), iv (3 : Int32), iv (1 : Int32), iv y1]) rfl) ?_
  refine go (fun _ => XT.iincV X125.here hx rfl (1 : Int32) (hb hby d2_38) (by decide) rfl (l' := #[rv aC, iv (2 : Int32), rv aB, iv (2 : Int32), iv (3 : Int32), iv (2 : Int32), iv y1]) rfl) ?_
  refine go (fun _ => XS.goto X125.here hx rfl (pc0 := 41) (pc' := 3) rfl (hb hby d2_41) (by decide) (by decide)) ?_
  refine go (fun _ => XS.iload X125.here hx rfl (hb hby d2_3) rfl) ?_
  refine go (fun _ => XS.iload X125.here hx rfl (hb hby d2_5) rfl) ?_
  show Ends p e below _ T125 (mkF m 7 #[rv aC, iv (2 : Int32), rv aB, iv (2 : Int32), iv (3 : Int32), iv (2 : Int32), iv y1] [(.int (3 : Int32)), (.int (2 : Int32))])
  refine go (fun _ => XS.icmpNo X125.here hx rfl (hb hby d2_7) rfl (XT.ii_ge_f ((by decide) : (2 : Int32) < (3 : Int32)))) ?_
  show Ends p e below _ T125 (mkF m 10 #[rv aC, iv (2 : Int32), rv aB, iv (2 : Int32), iv (3 : Int32), iv (2 : Int32), iv y1] [])
  refine go (fun _ => XS.aloadN X125.here hx rfl (hb hby d2_10) rfl rfl) ?_
  refine go (fun _ => XS.iloadN X125.here hx rfl (hb hby d2_11) rfl) ?_
  show Ends p e below _ T125 (mkF m 12 #[rv aC, iv (2 : Int32), rv aB, iv (2 : Int32), iv (3 : Int32), iv (2 : Int32), iv y1] [(.int (2 : Int32)), (.ref aC)])
  have F127 := (Arv.other F123 W125 ne0)
  obtain ⟨cl128, A128, -, S128, M128, H128, -⟩ := id F127
  have B128 := inb_of S128 (j := (2 : Int32)) (by decide)
  refine go (fun _ => X125.caload hx (j := (2 : Int32)) (v := (.int y2)) (by rw [e125]; exact A128.1) (State.isArrayOf_alike hZ.alike A128.2.1) A128.2.2 B128 (H128.at B128 rfl) (g := (mkF m 12 #[rv aC, iv (2 : Int32), rv aB, iv (2 : Int32), iv (3 : Int32), iv (2 : Int32), iv y1] [(.int (2 : Int32)), (.ref aC)])) rfl rfl (hb hby d2_12) _) ?_
  show Ends p e below _ T125 (mkF m 13 #[rv aC, iv (2 : Int32), rv aB, iv (2 : Int32), iv (3 : Int32), iv (2 : Int32), iv y1] [(.int y2)])
  refine go (fun _ => XS.istore X125.here hx rfl (hb hby d2_13) rfl (l' := #[rv aC, iv (2 : Int32), rv aB, iv (2 : Int32), iv (3 : Int32), iv (2 : Int32), iv y2]) rfl) ?_
  refine go (fun _ => XS.iload X125.here hx rfl (hb hby d2_15) rfl) ?_
  refine go (fun _ => XT.sipushV X125.here hx rfl (255 : Int32) (hb hby d2_17) (by decide)) ?_
  show Ends p e below _ T125 (mkF m 20 #[rv aC, iv (2 : Int32), rv aB, iv (2 : Int32), iv (3 : Int32), iv (2 : Int32), iv y2] [(.int (255 : Int32)), (.int y2)])
  refine go (fun _ => XS.icmpYes X125.here hx rfl (pc0 := 20) (pc' := 26) rfl (hb hby d2_20) rfl (XT.ii_le_t l2) (by decide) (by decide)) ?_
  show Ends p e below _ T125 (mkF m 26 #[rv aC, iv (2 : Int32), rv aB, iv (2 : Int32), iv (3 : Int32), iv (2 : Int32), iv y2] [])
  refine go (fun _ => XS.aloadN X125.here hx rfl (hb hby d2_26) rfl rfl) ?_
  refine go (fun _ => XS.iloadN X125.here hx rfl (hb hby d2_27) rfl) ?_
  refine go (fun _ => XS.iload X125.here hx rfl (hb hby d2_28) rfl) ?_
  refine go (fun _ => XT.i2b X125.here hx rfl (hb hby d2_30) rfl) ?_
  show Ends p e below _ T125 (mkF m 31 #[rv aC, iv (2 : Int32), rv aB, iv (2 : Int32), iv (3 : Int32), iv (2 : Int32), iv y2] [(.int y2.toInt8.toInt32), (.int (2 : Int32)), (.ref aB)])
  obtain ⟨cl129, A129, q129, S129, M129, H129, G129⟩ := id V125
  obtain ⟨T129, h129, X129, e129, W129, s129⟩ := stB X125 hx hZ e125 A129 (j := (2 : Int32)) (inb_of S129 (by decide)) (g := (mkF m 31 #[rv aC, iv (2 : Int32), rv aB, iv (2 : Int32), iv (3 : Int32), iv (2 : Int32), iv y2] [(.int y2.toInt8.toInt32), (.int (2 : Int32)), (.ref aB)])) rfl rfl (hb hby d2_31)
  have r129 : nar .byte y2.toInt8.toInt32 = y2.toInt8.toInt32 := own_nb _
  rw [r129] at W129
  have N129 := Fr.snoc X129 N125 f0
  have O130 : Ext Z.heap h129 := xw O126 W129 f0
  have V129 : Arv Z h129 aB kB .byte (3 : Int32) [(.int y0.toInt8.toInt32), (.int y1.toInt8.toInt32), (.int y2.toInt8.toInt32)] (.int 0) := Arv.set A129 q129 S129 M129 H129 G129 (by first | rfl | exact fits_nar_byte y2.toInt8.toInt32 | (rw [← r129]; exact fits_nar_byte y2.toInt8.toInt32)) W129 2 (by decide) (Nat.le_of_ble_eq_true rfl)
  refine go s129 ?_
  show Ends p e below _ T129 (mkF m 32 #[rv aC, iv (2 : Int32), rv aB, iv (2 : Int32), iv (3 : Int32), iv (2 : Int32), iv y2] [])
  refine go (fun _ => XT.iincV X129.here hx rfl (1 : Int32) (hb hby d2_32) (by decide) rfl (l' := #[rv aC, iv (3 : Int32), rv aB, iv (2 : Int32), iv (3 : Int32), iv (2 : Int32), iv y2]) rfl) ?_
  refine go (fun _ => XT.iincV X129.here hx rfl (1 : Int32) (hb hby d2_35) (by decide) rfl (l' := #[rv aC, iv (3 : Int32), rv aB, iv (3 : Int32), iv (3 : Int32), iv (2 : Int32), iv y2]) rfl) ?_
  refine go (fun _ => XT.iincV X129.here hx rfl (1 : Int32) (hb hby d2_38) (by decide) rfl (l' := #[rv aC, iv (3 : Int32), rv aB, iv (3 : Int32), iv (3 : Int32), iv (3 : Int32), iv y2]) rfl) ?_
  refine go (fun _ => XS.goto X129.here hx rfl (pc0 := 41) (pc' := 3) rfl (hb hby d2_41) (by decide) (by decide)) ?_
  refine go (fun _ => XS.iload X129.here hx rfl (hb hby d2_3) rfl) ?_
  refine go (fun _ => XS.iload X129.here hx rfl (hb hby d2_5) rfl) ?_
  show Ends p e below _ T129 (mkF m 7 #[rv aC, iv (3 : Int32), rv aB, iv (3 : Int32), iv (3 : Int32), iv (3 : Int32), iv y2] [(.int (3 : Int32)), (.int (3 : Int32))])
  refine go (fun _ => XS.icmpYes X129.here hx rfl (pc0 := 7) (pc' := 44) rfl (hb hby d2_7) rfl (XT.ii_ge_t ((by decide) : ¬ ((3 : Int32) < (3 : Int32)))) (by decide) (by decide)) ?_
  show Ends p e below _ T129 (mkF m 44 #[rv aC, iv (3 : Int32), rv aB, iv (3 : Int32), iv (3 : Int32), iv (3 : Int32), iv y2] [])
  refine go (fun _ => XS.iload X129.here hx rfl (hb hby d2_44) rfl) ?_
  show Ends p e below _ T129 (mkF m 46 #[rv aC, iv (3 : Int32), rv aB, iv (3 : Int32), iv (3 : Int32), iv (3 : Int32), iv y2] [(.int (3 : Int32))])
  have K131 : Keep h0 h129 [aB] := (Keep.wr (Keep.wr (Keep.wr (Keep.refl _ _) W121 (Or.inl (List.mem_of_getElem? (i := 0) rfl))) W125 (Or.inl (List.mem_of_getElem? (i := 0) rfl))) W129 (Or.inl (List.mem_of_getElem? (i := 0) rfl)))
  exact endI X129 hx hret (hb hby d2_46) (lvN X129 hlk e129 (fun h => by rw [hret] at h; cases h) ⟨rfl, N129, K131, V129⟩ (by decide) (by decide))
set_option maxRecDepth 65536 in
set_option maxHeartbeats 40000000 in
theorem rm_cmp3_3 {l : Launch} {Z : State} {a0 : Array Value} (hw : ∀ d ∈ tables_1, d.before a0 Z = true) (aC : Addr) (kC : ClassId) (y0 y1 y2 : Int32)  (h0 : Heap) (O0 : Ext Z.heap h0) (VC : Arv Z h0 aC kC .char (3 : Int32) [(.int y0), (.int y1), (.int y2)] (.int 0)) (l0 : ¬ (255 : Int32) < y0) (l1 : ¬ (255 : Int32) < y1) (l2 : ¬ (255 : Int32) < y2) :
    Con l (⟨"java/lang/StringUTF16", "compress", "([CII)[B"⟩ : MethodName) jdk_52_method_16_code 6 (some (.array .byte)) ({ frames := 1, cells := 1, slots := 3, locals := 18 } : Room) Z #[(.ref aC), (.int (0 : Int32)), (.int (3 : Int32))] h0 (fun v h L => ∃ (b : Addr) (k : ClassId), v = some (.ref b) ∧ Fr Z.heap.size L ∧ Keep h0 h [] ∧ h0.size ≤ b ∧ Arv Z h b k .byte (3 : Int32) [(.int y0.toInt8.toInt32), (.int y1.toInt8.toInt32), (.int y2.toInt8.toInt32)] (.int 0)) := by
  refine Con.of (plainFor_of_name pn_2) (Ls := #[rv aC, iv (0 : Int32), iv (3 : Int32), .unset, .unset, .unset]) (fun m => efOf rfl) ?_
  intro p e s m below meth c T0 X0 hx hZ hby hml hown hnm hret hlk e0
  refine go (fun _ => XS.iloadN X0.here hx rfl (hb hby d3_0) rfl) ?_
  show Ends p e below _ T0 (mkF m 1 #[rv aC, iv (0 : Int32), iv (3 : Int32), .unset, .unset, .unset] [(.int (3 : Int32))])
  obtain ⟨T132, h132, k132, X132, e132, E132, A132, s132⟩ := newP X0 hx hZ (hwi hw 23 rfl) e0 (g := (mkF m 1 #[rv aC, iv (0 : Int32), iv (3 : Int32), .unset, .unset, .unset] [(.int (3 : Int32))])) rfl (hb hby d3_1) rfl (by decide) (cap := 3) (by decide) (by decide) (by decide) (by decide)
  obtain ⟨a132, g132⟩ : ∃ z : Addr, z = h0.size := ⟨_, rfl⟩
  have n133 : aC ≠ a132 := fun q => absurd (VC.lt) (by rw [q, g132]; exact Nat.lt_irrefl _)
  have f132 : Z.heap.size ≤ a132 := by rw [g132]; exact (O0).1
  have K134 : Keep h0 h0 [] := (Keep.refl _ _)
  have b132 : h0.size ≤ a132 := by rw [g132]; exact (K134).1
  rw [← g132] at A132 s132
  have O135 : Ext Z.heap h132 := xx O0 E132
  have V132 : Arv Z h132 a132 k132 .byte (3 : Int32) [(.int (0 : Int32)), (.int (0 : Int32)), (.int (0 : Int32))] (.int 0) := Arv.pad (Arv.new A132 (by decide)) (pad_rep [] _ 3)
  refine go s132 ?_
  show Ends p e below _ T132 (mkF m 3 #[rv aC, iv (0 : Int32), iv (3 : Int32), .unset, .unset, .unset] [(.ref a132)])
  refine go (fun _ => XS.astoreN X132.here hx rfl (hb hby d3_3) rfl rfl (l' := #[rv aC, iv (0 : Int32), iv (3 : Int32), rv a132, .unset, .unset]) rfl) ?_
  refine go (fun _ => XS.aloadN X132.here hx rfl (hb hby d3_4) rfl rfl) ?_
  refine go (fun _ => XS.iloadN X132.here hx rfl (hb hby d3_5) rfl) ?_
  refine go (fun _ => XS.aloadN X132.here hx rfl (hb hby d3_6) rfl rfl) ?_
  refine go (fun _ => XT.iconstV X132.here hx rfl (0 : Int32) (hb hby d3_7) (by decide)) ?_
  refine go (fun _ => XS.iloadN X132.here hx rfl (hb hby d3_8) rfl) ?_
  show Ends p e below _ T132 (mkF m 9 #[rv aC, iv (0 : Int32), iv (3 : Int32), rv a132, .unset, .unset] [(.int (3 : Int32)), (.int (0 : Int32)), (.ref a132), (.int (0 : Int32)), (.ref aC)])
  have F136 := (Arv.ext VC E132)
  refine cStat X132 hx hZ hown (by rw [hml]; rfl) e132 (hwi hw 24 rfl) (hwi hw 25 rfl) (hwi hw 21 rfl) (hwi hw 26 rfl) [(.ref aC), (.int (0 : Int32)), (.ref a132), (.int (0 : Int32)), (.int (3 : Int32))] [] rfl (rm_cmp5_3 hw aC a132 kC k132 y0 y1 y2 _ O135 f132 n133 F136 V132 l0 l1 l2) (hb hby d3_9) rfl (lenOf pd_3 rfl) (by decide) (by decide) (Nat.le_of_ble_eq_true rfl) (by decide) (by decide) ?_
  rintro v137 T137 h137 L137 X137 e137 ⟨rfl, N137, K137, V137⟩
  have N137a := Fr.app (Fr.nil _) N137
  have O138 : Ext Z.heap h137 := xk O135 K137 (allS f132 all0)
  show Ends p e below _ T137 (mkF m 12 #[rv aC, iv (0 : Int32), iv (3 : Int32), rv a132, .unset, .unset] [(.int (3 : Int32))])
  refine go (fun _ => XS.istore X137.here hx rfl (hb hby d3_12) rfl (l' := #[rv aC, iv (0 : Int32), iv (3 : Int32), rv a132, iv (3 : Int32), .unset]) rfl) ?_
  refine go (fun _ => XS.iload X137.here hx rfl (hb hby d3_14) rfl) ?_
  refine go (fun _ => XS.iloadN X137.here hx rfl (hb hby d3_16) rfl) ?_
  show Ends p e below _ T137 (mkF m 17 #[rv aC, iv (0 : Int32), iv (3 : Int32), rv a132, iv (3 : Int32), .unset] [(.int (3 : Int32)), (.int (3 : Int32))])
  refine go (fun _ => XS.icmpYes X137.here hx rfl (pc0 := 17) (pc' := 57) rfl (hb hby d3_17) rfl (XT.ii_eq_t ((by decide) : (3 : Int32) = (3 : Int32))) (by decide) (by decide)) ?_
  show Ends p e below _ T137 (mkF m 57 #[rv aC, iv (0 : Int32), iv (3 : Int32), rv a132, iv (3 : Int32), .unset] [])
  refine go (fun _ => XS.aloadN X137.here hx rfl (hb hby d3_57) rfl rfl) ?_
  show Ends p e below _ T137 (mkF m 58 #[rv aC, iv (0 : Int32), iv (3 : Int32), rv a132, iv (3 : Int32), .unset] [(.ref a132)])
  have K139 : Keep h0 h137 [] := (Keep.trans (Keep.ext K134 E132) K137 (allS (Or.inr b132) all0))
  exact endA X137 hx hret rfl rfl (hb hby d3_58) (lvN X137 hlk e137 (fun h => by rw [hret] at h; cases h) ⟨a132, _, rfl, N137a, K139, b132, V137⟩ (by decide) (by decide))
set_option maxRecDepth 65536 in
set_option maxHeartbeats 40000000 in
theorem rm_coder_3 {l : Launch} {Z : State} {a0 : Array Value} (hw : ∀ d ∈ tables_1, d.before a0 Z = true) (aB : Addr) (kB : ClassId) (vs : List Value) (h0 : Heap) (VB : Arv Z h0 aB kB .byte (3 : Int32) vs (.int 0)) :
    Con l (⟨"java/lang/StringUTF16", "coderFromArrayLen", "([BI)B"⟩ : MethodName) jdk_52_method_15_code 2 (some .byte) ({ frames := 0, cells := 0, slots := 0, locals := 0 } : Room) Z #[(.ref aB), (.int (3 : Int32))] h0 (fun v h L => v = some (.int 0) ∧ Fr Z.heap.size L ∧ h0 = h) := by
  refine Con.of (plainFor_of_name pn_2) (Ls := #[rv aB, iv (3 : Int32)]) (fun m => efOf rfl) ?_
  intro p e s m below meth c T0 X0 hx hZ hby hml hown hnm hret hlk e0
  refine go (fun _ => XS.iloadN X0.here hx rfl (hb hby d4_0) rfl) ?_
  refine go (fun _ => XS.aloadN X0.here hx rfl (hb hby d4_1) rfl rfl) ?_
  show Ends p e below _ T0 (mkF m 2 #[rv aB, iv (3 : Int32)] [(.ref aB), (.int (3 : Int32))])
  obtain ⟨cl140, A140, -, S140, M140, -⟩ := id VB
  refine go (fun _ => X0.arraylength hx (cell := cl140) (by rw [e0]; exact A140.1) (State.isArrayOf_alike hZ.alike A140.2.1) (g := (mkF m 2 #[rv aB, iv (3 : Int32)] [(.ref aB), (.int (3 : Int32))])) rfl rfl (hb hby d4_2) _) ?_
  rw [len_of S140 M140]
  show Ends p e below _ T0 (mkF m 3 #[rv aB, iv (3 : Int32)] [(.int (3 : Int32)), (.int (3 : Int32))])
  refine go (fun _ => XS.isub X0.here hx rfl (hb hby d4_3) rfl) ?_
  refine go (fun _ => XT.bipushV X0.here hx rfl (31 : Int32) (hb hby d4_4) (by decide)) ?_
  refine go (fun _ => XT.iushr X0.here hx rfl (hb hby d4_6) rfl) ?_
  refine go (fun _ => XT.i2b X0.here hx rfl (hb hby d4_7) rfl) ?_
  show Ends p e below _ T0 (mkF m 8 #[rv aB, iv (3 : Int32)] [(.int (0 : Int32))])
  exact endN X0 hx hret (by simp) (hb hby d4_8) (lvN X0 hlk e0 (fun h => by rw [hret] at h; cases h) ⟨rfl, (Fr.nil _), rfl⟩ (by decide) (by decide))
set_option maxRecDepth 65536 in
set_option maxHeartbeats 40000000 in
theorem rm_new4_3 {l : Launch} {Z : State} {a0 : Array Value} (hw : ∀ d ∈ tables_1, d.before a0 Z = true) (a aC : Addr) (kC : ClassId) (y0 y1 y2 : Int32)  (h0 : Heap) (O0 : Ext Z.heap h0) (f0 : Z.heap.size ≤ a) (ne0 : a ≠ aC) (E0 : Exa Z h0 a "java/lang/String") (FV : Fld Z h0 a "java/lang/String" "value" "[B" .null) (FC : Fld Z h0 a "java/lang/String" "coder" "B" (.int 0)) (cz : Int32) (SCS : Sta Z Z.heap "java/lang/String" "COMPACT_STRINGS" "Z" (.int cz)) (hcz : ¬ cz = (0 : Int32)) (VC : Arv Z h0 aC kC .char (3 : Int32) [(.int y0), (.int y1), (.int y2)] (.int 0)) (l0 : ¬ (255 : Int32) < y0) (l1 : ¬ (255 : Int32) < y1) (l2 : ¬ (255 : Int32) < y2) :
    Con l (⟨"java/lang/String", "<init>", "([CIILjava/lang/Void;)V"⟩ : MethodName) jdk_42_method_149_code 6 none ({ frames := 2, cells := 1, slots := 3, locals := 35 } : Room) Z #[(.ref a), (.ref aC), (.int (0 : Int32)), (.int (3 : Int32)), .null] h0 (fun v h L => ∃ (b : Addr) (k : ClassId), v = none ∧ Fr Z.heap.size L ∧ Keep h0 h [a] ∧ h0.size ≤ b ∧ Fld Z h a "java/lang/String" "value" "[B" (.ref b) ∧ Fld Z h a "java/lang/String" "coder" "B" (.int 0) ∧ Arv Z h b k .byte (3 : Int32) [(.int y0.toInt8.toInt32), (.int y1.toInt8.toInt32), (.int y2.toInt8.toInt32)] (.int 0)) := by
  refine Con.of (plainFor_of_name pn_0) (Ls := #[rv a, rv aC, iv (0 : Int32), iv (3 : Int32), .val .null, .unset]) (fun m => efOf rfl) ?_
  intro p e s m below meth c T0 X0 hx hZ hby hml hown hnm hret hlk e0
  refine go (fun _ => XS.aloadN X0.here hx rfl (hb hby d0_0) rfl rfl) ?_
  show Ends p e below _ T0 (mkF m 1 #[rv a, rv aC, iv (0 : Int32), iv (3 : Int32), .val .null, .unset] [(.ref a)])
  obtain ⟨T141, X141, e141, s141⟩ := initO X0 hx hZ hown (hwi hw 15 rfl) (hwi hw 16 rfl) (hwi hw 17 rfl) e0 (g := (mkF m 1 #[rv a, rv aC, iv (0 : Int32), iv (3 : Int32), .val .null, .unset] [(.ref a)])) rfl (by rw [hml]; rfl) rfl (hb hby d0_1) (by decide) (W := 0) (by show 2 * 0 + _ ≤ _; exact Nat.le_of_eq rfl) (by decide)
  refine go s141 ?_
  show Ends p e below _ T141 (mkF m 4 #[rv a, rv aC, iv (0 : Int32), iv (3 : Int32), .val .null, .unset] [])
  refine go (fun _ => XS.iloadN X141.here hx rfl (hb hby d0_4) rfl) ?_
  show Ends p e below _ T141 (mkF m 5 #[rv a, rv aC, iv (0 : Int32), iv (3 : Int32), .val .null, .unset] [(.int (3 : Int32))])
  refine go (fun _ => XS.ifYes X141.here hx rfl (pc0 := 5) (pc' := 27) rfl (hb hby d0_5) rfl (XT.i0_ne_t ((by decide) : ¬ ((3 : Int32) = (0 : Int32)))) (by decide) (by decide)) ?_
  show Ends p e below _ T141 (mkF m 27 #[rv a, rv aC, iv (0 : Int32), iv (3 : Int32), .val .null, .unset] [])
  obtain ⟨T142, X142, e142, s142⟩ := getS2 X141 hx hZ hown (host := "") (Or.inl (hwi hw 18 rfl)) Via.refl e141 (Sta.ext O0 SCS) (g := (mkF m 27 #[rv a, rv aC, iv (0 : Int32), iv (3 : Int32), .val .null, .unset] [])) rfl (hb hby d0_27)
  refine go s142 ?_
  show Ends p e below _ T142 (mkF m 30 #[rv a, rv aC, iv (0 : Int32), iv (3 : Int32), .val .null, .unset] [(.int cz)])
  refine go (fun _ => XS.ifNo X142.here hx rfl (hb hby d0_30) rfl (XT.i0_eq_f hcz)) ?_
  show Ends p e below _ T142 (mkF m 33 #[rv a, rv aC, iv (0 : Int32), iv (3 : Int32), .val .null, .unset] [])
  refine go (fun _ => XS.aloadN X142.here hx rfl (hb hby d0_33) rfl rfl) ?_
  refine go (fun _ => XS.iloadN X142.here hx rfl (hb hby d0_34) rfl) ?_
  refine go (fun _ => XS.iloadN X142.here hx rfl (hb hby d0_35) rfl) ?_
  show Ends p e below _ T142 (mkF m 36 #[rv a, rv aC, iv (0 : Int32), iv (3 : Int32), .val .null, .unset] [(.int (3 : Int32)), (.int (0 : Int32)), (.ref aC)])
  refine cStat X142 hx hZ hown (by rw [hml]; rfl) e142 (hwi hw 19 rfl) (hwi hw 20 rfl) (hwi hw 21 rfl) (hwi hw 22 rfl) [(.ref aC), (.int (0 : Int32)), (.int (3 : Int32))] [] rfl (rm_cmp3_3 hw aC kC y0 y1 y2 _ O0 VC l0 l1 l2) (hb hby d0_36) rfl (lenOf pd_4 rfl) (by decide) (by decide) (Nat.le_of_ble_eq_true rfl) (by decide) (by decide) ?_
  rintro v143 T143 h143 L143 X143 e143 ⟨b143, k143, rfl, N143, K143, g143, V143⟩
  have N143a := Fr.app (Fr.nil _) N143
  have n144 : a ≠ b143 := Nat.ne_of_lt (Nat.lt_of_lt_of_le (E0.lt) g143)
  have n145 : aC ≠ b143 := Nat.ne_of_lt (Nat.lt_of_lt_of_le (VC.lt) g143)
  have f146 : Z.heap.size ≤ b143 := Nat.le_trans (O0).1 g143
  have K147 : Keep h0 h0 [a] := (Keep.refl _ _)
  have b146 : h0.size ≤ b143 := Nat.le_trans (K147).1 g143
  have O148 : Ext Z.heap h143 := xk O0 K143 all0
  show Ends p e below _ T143 (mkF m 39 #[rv a, rv aC, iv (0 : Int32), iv (3 : Int32), .val .null, .unset] [(.ref b143)])
  refine go (fun _ => XS.astore X143.here hx rfl (hb hby d0_39) rfl rfl (l' := #[rv a, rv aC, iv (0 : Int32), iv (3 : Int32), .val .null, rv b143]) rfl) ?_
  refine go (fun _ => XS.aloadN X143.here hx rfl (hb hby d0_41) rfl rfl) ?_
  refine go (fun _ => XS.aload X143.here hx rfl (hb hby d0_42) rfl rfl) ?_
  refine go (fun _ => XS.iloadN X143.here hx rfl (hb hby d0_44) rfl) ?_
  show Ends p e below _ T143 (mkF m 45 #[rv a, rv aC, iv (0 : Int32), iv (3 : Int32), .val .null, rv b143] [(.int (3 : Int32)), (.ref b143), (.ref a)])
  refine cStat X143 hx hZ hown (by rw [hml]; rfl) e143 (hwi hw 27 rfl) (hwi hw 28 rfl) (hwi hw 21 rfl) (hwi hw 29 rfl) [(.ref b143), (.int (3 : Int32))] [(.ref a)] rfl (rm_coder_3 hw b143 _ _ _ V143) (hb hby d0_45) rfl (lenOf pd_5 rfl) (by decide) (by decide) (Nat.le_of_ble_eq_true rfl) (by decide) (by decide) ?_
  rintro v149 T149 h149 L149 X149 e149 ⟨rfl, N149, rfl⟩
  have N149a := Fr.app N143a N149
  show Ends p e below _ T149 (mkF m 48 #[rv a, rv aC, iv (0 : Int32), iv (3 : Int32), .val .null, rv b143] [(.int (0 : Int32)), (.ref a)])
  have F150 := (Exa.keep E0 K143)
  have F151 := (Fld.keep FC K143 nin0)
  obtain ⟨T152, h152, X152, e152, W152, s152⟩ := putF X149 hx hZ hown (host := "") (Or.inl (hwi hw 30 rfl)) Via.refl e149 F151 F150 (Or.inr ⟨(hwi hw 31 rfl), rfl, hnm⟩) (hwi hw 5 rfl) (ty := .byte) (by decide) rfl rfl (g := (mkF m 48 #[rv a, rv aC, iv (0 : Int32), iv (3 : Int32), .val .null, rv b143] [(.int (0 : Int32)), (.ref a)])) rfl rfl (hb hby d0_48)
  have N152 := Fr.snoc X152 N149a f0
  have O153 : Ext Z.heap h152 := xw O148 W152 f0
  refine go s152 ?_
  show Ends p e below _ T152 (mkF m 51 #[rv a, rv aC, iv (0 : Int32), iv (3 : Int32), .val .null, rv b143] [])
  refine go (fun _ => XS.aloadN X152.here hx rfl (hb hby d0_51) rfl rfl) ?_
  refine go (fun _ => XS.aload X152.here hx rfl (hb hby d0_52) rfl rfl) ?_
  show Ends p e below _ T152 (mkF m 54 #[rv a, rv aC, iv (0 : Int32), iv (3 : Int32), .val .null, rv b143] [(.ref b143), (.ref a)])
  have F154 := (Exa.wr W152 F150)
  have F155 := (Fld.other W152 (Fld.keep FV K143 nin0) (Or.inr (slot_ne (a0 := a0) (Or.inr (hwi hw 33 rfl)) (Or.inr (hwi hw 31 rfl)) (by decide) (t := (.array .byte)) (t' := .byte) (by decide) (by decide))))
  obtain ⟨T156, h156, X156, e156, W156, s156⟩ := putF X152 hx hZ hown (host := "") (Or.inl (hwi hw 32 rfl)) Via.refl e152 F155 F154 (Or.inr ⟨(hwi hw 33 rfl), rfl, hnm⟩) (hwi hw 5 rfl) (ty := (.array .byte)) (by decide) rfl rfl (g := (mkF m 54 #[rv a, rv aC, iv (0 : Int32), iv (3 : Int32), .val .null, rv b143] [(.ref b143), (.ref a)])) rfl rfl (hb hby d0_54)
  have N156 := Fr.snoc X156 N152 f0
  have O157 : Ext Z.heap h156 := xw O153 W156 f0
  refine go s156 ?_
  show Ends p e below _ T156 (mkF m 57 #[rv a, rv aC, iv (0 : Int32), iv (3 : Int32), .val .null, rv b143] [])
  have K158 : Keep h0 h156 [a] := (Keep.wr (Keep.wr (Keep.trans K147 K143 all0) W152 (Or.inl (List.mem_of_getElem? (i := 0) rfl))) W156 (Or.inl (List.mem_of_getElem? (i := 0) rfl)))
  have F159 := (Fld.same W156 F155)
  have F160 := (Fld.other W156 (Fld.same W152 F151) (Or.inr (slot_ne (a0 := a0) (Or.inr (hwi hw 31 rfl)) (Or.inr (hwi hw 33 rfl)) (by decide) (t := .byte) (t' := (.array .byte)) (by decide) (by decide))))
  have F161 := (Arv.other (Arv.other V143 W152 (Ne.symm n144)) W156 (Ne.symm n144))
  exact endV X156 hx hret (hb hby d0_57) (lvN X156 hlk e156 (fun _ => rfl) ⟨b143, _, rfl, N156, K158, b146, F159, F160, F161⟩ (by decide) (by decide))
set_option maxRecDepth 65536 in
set_option maxHeartbeats 40000000 in
theorem rm_new1_3 {l : Launch} {Z : State} {a0 : Array Value} (hw : ∀ d ∈ tables_1, d.before a0 Z = true) (a aC : Addr) (kC : ClassId) (y0 y1 y2 : Int32)  (h0 : Heap) (O0 : Ext Z.heap h0) (f0 : Z.heap.size ≤ a) (ne0 : a ≠ aC) (E0 : Exa Z h0 a "java/lang/String") (FV : Fld Z h0 a "java/lang/String" "value" "[B" .null) (FC : Fld Z h0 a "java/lang/String" "coder" "B" (.int 0)) (cz : Int32) (SCS : Sta Z Z.heap "java/lang/String" "COMPACT_STRINGS" "Z" (.int cz)) (hcz : ¬ cz = (0 : Int32)) (VC : Arv Z h0 aC kC .char (3 : Int32) [(.int y0), (.int y1), (.int y2)] (.int 0)) (l0 : ¬ (255 : Int32) < y0) (l1 : ¬ (255 : Int32) < y1) (l2 : ¬ (255 : Int32) < y2) :
    Con l (⟨"java/lang/String", "<init>", "([C)V"⟩ : MethodName) jdk_42_method_3_code 2 none ({ frames := 3, cells := 1, slots := 3, locals := 52 } : Room) Z #[(.ref a), (.ref aC)] h0 (fun v h L => ∃ (b : Addr) (k : ClassId), v = none ∧ Fr Z.heap.size L ∧ Keep h0 h [a] ∧ h0.size ≤ b ∧ Fld Z h a "java/lang/String" "value" "[B" (.ref b) ∧ Fld Z h a "java/lang/String" "coder" "B" (.int 0) ∧ Arv Z h b k .byte (3 : Int32) [(.int y0.toInt8.toInt32), (.int y1.toInt8.toInt32), (.int y2.toInt8.toInt32)] (.int 0)) := by
  refine Con.of (plainFor_of_name pn_0) (Ls := #[rv a, rv aC]) (fun m => efOf rfl) ?_
  intro p e s m below meth c T0 X0 hx hZ hby hml hown hnm hret hlk e0
  refine go (fun _ => XS.aloadN X0.here hx rfl (hb hby d1_0) rfl rfl) ?_
  refine go (fun _ => XS.aloadN X0.here hx rfl (hb hby d1_1) rfl rfl) ?_
  refine go (fun _ => XT.iconstV X0.here hx rfl (0 : Int32) (hb hby d1_2) (by decide)) ?_
  refine go (fun _ => XS.aloadN X0.here hx rfl (hb hby d1_3) rfl rfl) ?_
  show Ends p e below _ T0 (mkF m 4 #[rv a, rv aC] [(.ref aC), (.int (0 : Int32)), (.ref aC), (.ref a)])
  obtain ⟨cl162, A162, -, S162, M162, -⟩ := id VC
  refine go (fun _ => X0.arraylength hx (cell := cl162) (by rw [e0]; exact A162.1) (State.isArrayOf_alike hZ.alike A162.2.1) (g := (mkF m 4 #[rv a, rv aC] [(.ref aC), (.int (0 : Int32)), (.ref aC), (.ref a)])) rfl rfl (hb hby d1_4) _) ?_
  rw [len_of S162 M162]
  show Ends p e below _ T0 (mkF m 5 #[rv a, rv aC] [(.int (3 : Int32)), (.int (0 : Int32)), (.ref aC), (.ref a)])
  refine go (fun _ => XS.aconstNull X0.here hx rfl (hb hby d1_5)) ?_
  show Ends p e below _ T0 (mkF m 6 #[rv a, rv aC] [.null, (.int (3 : Int32)), (.int (0 : Int32)), (.ref aC), (.ref a)])
  refine cInit X0 hx hZ hown (by rw [hml]; rfl) e0 (hwi hw 11 rfl) (hwi hw 12 rfl) (hwi hw 6 rfl) (hwi hw 14 rfl) a [(.ref aC), (.int (0 : Int32)), (.int (3 : Int32)), .null] [] rfl (rm_new4_3 hw a aC kC y0 y1 y2 _ O0 f0 ne0 E0 FV FC cz SCS hcz VC l0 l1 l2) (hb hby d1_6) rfl (lenOf pd_1 rfl) rfl (by decide) (by decide) (Nat.le_of_ble_eq_true rfl) (by decide) (by decide) ?_
  rintro v163 T163 h163 L163 X163 e163 ⟨b163, k163, rfl, N163, K163, g163, Fv163, Fc163, V163⟩
  have N163a := Fr.app (Fr.nil _) N163
  have n164 : a ≠ b163 := Nat.ne_of_lt (Nat.lt_of_lt_of_le (E0.lt) g163)
  have n165 : aC ≠ b163 := Nat.ne_of_lt (Nat.lt_of_lt_of_le (VC.lt) g163)
  have f166 : Z.heap.size ≤ b163 := Nat.le_trans (O0).1 g163
  have K167 : Keep h0 h0 [a] := (Keep.refl _ _)
  have b166 : h0.size ≤ b163 := Nat.le_trans (K167).1 g163
  have O168 : Ext Z.heap h163 := xk O0 K163 (allS f0 all0)
  show Ends p e below _ T163 (mkF m 9 #[rv a, rv aC] [])
  have K169 : Keep h0 h163 [a] := (Keep.trans K167 K163 (allS (Or.inl (List.mem_of_getElem? (i := 0) rfl)) all0))
  exact endV X163 hx hret (hb hby d1_9) (lvN X163 hlk e163 (fun _ => rfl) ⟨b163, _, rfl, N163a, K169, b166, Fv163, Fc163, V163⟩ (by decide) (by decide))
set_option maxRecDepth 65536 in
set_option maxHeartbeats 40000000 in
theorem rm_can {l : Launch} {Z : State} {a0 : Array Value} (hw : ∀ d ∈ tables_1, d.before a0 Z = true) (y : Int32) (h0 : Heap) (l0 : ¬ (255 : Int32) < y) :
    Con l (⟨"java/lang/StringLatin1", "canEncode", "(C)Z"⟩ : MethodName) jdk_43_method_3_code 1 (some .boolean) ({ frames := 0, cells := 0, slots := 0, locals := 0 } : Room) Z #[(.int y)] h0 (fun v h L => v = some (.int 1) ∧ Fr Z.heap.size L ∧ h0 = h) := by
  refine Con.of (plainFor_of_name pn_6) (Ls := #[iv y]) (fun m => efOf rfl) ?_
  intro p e s m below meth c T0 X0 hx hZ hby hml hown hnm hret hlk e0
  refine go (fun _ => XS.iloadN X0.here hx rfl (hb hby d5_0) rfl) ?_
  refine go (fun _ => XT.sipushV X0.here hx rfl (255 : Int32) (hb hby d5_1) (by decide)) ?_
  show Ends p e below _ T0 (mkF m 4 #[iv y] [(.int (255 : Int32)), (.int y)])
  refine go (fun _ => XS.icmpNo X0.here hx rfl (hb hby d5_4) rfl (XT.ii_gt_f l0)) ?_
  show Ends p e below _ T0 (mkF m 7 #[iv y] [])
  refine go (fun _ => XT.iconstV X0.here hx rfl (1 : Int32) (hb hby d5_7) (by decide)) ?_
  refine go (fun _ => XS.goto X0.here hx rfl (pc0 := 8) (pc' := 12) rfl (hb hby d5_8) (by decide) (by decide)) ?_
  show Ends p e below _ T0 (mkF m 12 #[iv y] [(.int (1 : Int32))])
  exact endN X0 hx hret (by simp) (hb hby d5_12) (lvN X0 hlk e0 (fun h => by rw [hret] at h; cases h) ⟨rfl, (Fr.nil _), rfl⟩ (by decide) (by decide))
set_option maxRecDepth 65536 in
set_option maxHeartbeats 40000000 in
theorem rm_tobytes {l : Launch} {Z : State} {a0 : Array Value} (hw : ∀ d ∈ tables_1, d.before a0 Z = true) (y : Int32) (h0 : Heap) (O0 : Ext Z.heap h0) :
    Con l (⟨"java/lang/StringLatin1", "toBytes", "(C)[B"⟩ : MethodName) jdk_43_method_46_code 1 (some (.array .byte)) ({ frames := 0, cells := 1, slots := 1, locals := 0 } : Room) Z #[(.int y)] h0 (fun v h L => ∃ (b : Addr) (k : ClassId), v = some (.ref b) ∧ Fr Z.heap.size L ∧ Keep h0 h [] ∧ h0.size ≤ b ∧ Arv Z h b k .byte (1 : Int32) [(.int y.toInt8.toInt32)] (.int 0)) := by
  refine Con.of (plainFor_of_name pn_6) (Ls := #[iv y]) (fun m => efOf rfl) ?_
  intro p e s m below meth c T0 X0 hx hZ hby hml hown hnm hret hlk e0
  refine go (fun _ => XT.iconstV X0.here hx rfl (1 : Int32) (hb hby d6_0) (by decide)) ?_
  show Ends p e below _ T0 (mkF m 1 #[iv y] [(.int (1 : Int32))])
  obtain ⟨T170, h170, k170, X170, e170, E170, A170, s170⟩ := newP X0 hx hZ (hwi hw 23 rfl) e0 (g := (mkF m 1 #[iv y] [(.int (1 : Int32))])) rfl (hb hby d6_1) rfl (by decide) (cap := 1) (by decide) (by decide) (by decide) (by decide)
  obtain ⟨a170, g170⟩ : ∃ z : Addr, z = h0.size := ⟨_, rfl⟩
  have f170 : Z.heap.size ≤ a170 := by rw [g170]; exact (O0).1
  have K171 : Keep h0 h0 [] := (Keep.refl _ _)
  have b170 : h0.size ≤ a170 := by rw [g170]; exact (K171).1
  rw [← g170] at A170 s170
  have O172 : Ext Z.heap h170 := xx O0 E170
  have V170 : Arv Z h170 a170 k170 .byte (1 : Int32) [(.int (0 : Int32))] (.int 0) := Arv.pad (Arv.new A170 (by decide)) (pad_rep [] _ 1)
  refine go s170 ?_
  show Ends p e below _ T170 (mkF m 3 #[iv y] [(.ref a170)])
  refine go (fun _ => XS.dup X170.here hx rfl (hb hby d6_3) rfl rfl) ?_
  refine go (fun _ => XT.iconstV X170.here hx rfl (0 : Int32) (hb hby d6_4) (by decide)) ?_
  refine go (fun _ => XS.iloadN X170.here hx rfl (hb hby d6_5) rfl) ?_
  refine go (fun _ => XT.i2b X170.here hx rfl (hb hby d6_6) rfl) ?_
  show Ends p e below _ T170 (mkF m 7 #[iv y] [(.int y.toInt8.toInt32), (.int (0 : Int32)), (.ref a170), (.ref a170)])
  obtain ⟨cl173, A173, q173, S173, M173, H173, G173⟩ := id V170
  obtain ⟨T173, h173, X173, e173, W173, s173⟩ := stB X170 hx hZ e170 A173 (j := (0 : Int32)) (inb_of S173 (by decide)) (g := (mkF m 7 #[iv y] [(.int y.toInt8.toInt32), (.int (0 : Int32)), (.ref a170), (.ref a170)])) rfl rfl (hb hby d6_7)
  have r173 : nar .byte y.toInt8.toInt32 = y.toInt8.toInt32 := own_nb _
  rw [r173] at W173
  have N173 := Fr.snoc X173 (Fr.nil _) f170
  have O174 : Ext Z.heap h173 := xw O172 W173 f170
  have V173 : Arv Z h173 a170 k170 .byte (1 : Int32) [(.int y.toInt8.toInt32)] (.int 0) := Arv.set A173 q173 S173 M173 H173 G173 (by first | rfl | exact fits_nar_byte y.toInt8.toInt32 | (rw [← r173]; exact fits_nar_byte y.toInt8.toInt32)) W173 0 (by decide) (Nat.le_of_ble_eq_true rfl)
  refine go s173 ?_
  show Ends p e below _ T173 (mkF m 8 #[iv y] [(.ref a170)])
  have K175 : Keep h0 h173 [] := (Keep.wr (Keep.ext K171 E170) W173 (Or.inr b170))
  exact endA X173 hx hret rfl rfl (hb hby d6_8) (lvN X173 hlk e173 (fun h => by rw [hret] at h; cases h) ⟨a170, _, rfl, N173, K175, b170, V173⟩ (by decide) (by decide))
set_option maxRecDepth 65536 in
set_option maxHeartbeats 40000000 in
theorem rm_strbb {l : Launch} {Z : State} {a0 : Array Value} (hw : ∀ d ∈ tables_1, d.before a0 Z = true) (a : Addr) (x : Addr) (h0 : Heap) (O0 : Ext Z.heap h0) (f0 : Z.heap.size ≤ a) (E0 : Exa Z h0 a "java/lang/String") (F_value : Fld Z h0 a "java/lang/String" "value" "[B" .null) (F_coder : Fld Z h0 a "java/lang/String" "coder" "B" (.int (0 : Int32)))   :
    Con l (⟨"java/lang/String", "<init>", "([BB)V"⟩ : MethodName) jdk_42_method_151_code 3 none ({ frames := 1, cells := 0, slots := 0, locals := 12 } : Room) Z #[(.ref a), (.ref x), (.int (0 : Int32))] h0 (fun v h L => v = none ∧ Fr Z.heap.size L ∧ Keep h0 h [a] ∧ Fld Z h a "java/lang/String" "value" "[B" (.ref x) ∧ Fld Z h a "java/lang/String" "coder" "B" (.int (0 : Int32))) := by
  refine Con.of (plainFor_of_name pn_0) (Ls := #[rv a, rv x, iv (0 : Int32)]) (fun m => efOf rfl) ?_
  intro p e s m below meth c T0 X0 hx hZ hby hml hown hnm hret hlk e0
  refine go (fun _ => XS.aloadN X0.here hx rfl (hb hby d7_0) rfl rfl) ?_
  show Ends p e below _ T0 (mkF m 1 #[rv a, rv x, iv (0 : Int32)] [(.ref a)])
  obtain ⟨T176, X176, e176, s176⟩ := initO X0 hx hZ hown (hwi hw 15 rfl) (hwi hw 16 rfl) (hwi hw 17 rfl) e0 (g := (mkF m 1 #[rv a, rv x, iv (0 : Int32)] [(.ref a)])) rfl (by rw [hml]; rfl) rfl (hb hby d7_1) (by decide) (W := 0) (by show 2 * 0 + _ ≤ _; exact Nat.le_of_eq rfl) (by decide)
  refine go s176 ?_
  show Ends p e below _ T176 (mkF m 4 #[rv a, rv x, iv (0 : Int32)] [])
  refine go (fun _ => XS.aloadN X176.here hx rfl (hb hby d7_4) rfl rfl) ?_
  refine go (fun _ => XS.aloadN X176.here hx rfl (hb hby d7_5) rfl rfl) ?_
  show Ends p e below _ T176 (mkF m 6 #[rv a, rv x, iv (0 : Int32)] [(.ref x), (.ref a)])
  obtain ⟨T177, h177, X177, e177, W177, s177⟩ := putF X176 hx hZ hown (host := "") (Or.inl (hwi hw 32 rfl)) Via.refl e176 F_value E0 (Or.inr ⟨(hwi hw 33 rfl), rfl, hnm⟩) (hwi hw 5 rfl) (ty := (.array .byte)) (by decide) rfl rfl (g := (mkF m 6 #[rv a, rv x, iv (0 : Int32)] [(.ref x), (.ref a)])) rfl rfl (hb hby d7_6)
  have N177 := Fr.snoc X177 (Fr.nil _) f0
  have O178 : Ext Z.heap h177 := xw O0 W177 f0
  refine go s177 ?_
  show Ends p e below _ T177 (mkF m 9 #[rv a, rv x, iv (0 : Int32)] [])
  refine go (fun _ => XS.aloadN X177.here hx rfl (hb hby d7_9) rfl rfl) ?_
  refine go (fun _ => XS.iloadN X177.here hx rfl (hb hby d7_10) rfl) ?_
  show Ends p e below _ T177 (mkF m 11 #[rv a, rv x, iv (0 : Int32)] [(.int (0 : Int32)), (.ref a)])
  have F179 := (Exa.wr W177 E0)
  have F180 := (Fld.other W177 F_coder (Or.inr (slot_ne (a0 := a0) (Or.inr (hwi hw 31 rfl)) (Or.inr (hwi hw 33 rfl)) (by decide) (t := .byte) (t' := (.array .byte)) (by decide) (by decide))))
  obtain ⟨T181, h181, X181, e181, W181, s181⟩ := putF X177 hx hZ hown (host := "") (Or.inl (hwi hw 30 rfl)) Via.refl e177 F180 F179 (Or.inr ⟨(hwi hw 31 rfl), rfl, hnm⟩) (hwi hw 5 rfl) (ty := .byte) (by decide) rfl rfl (g := (mkF m 11 #[rv a, rv x, iv (0 : Int32)] [(.int (0 : Int32)), (.ref a)])) rfl rfl (hb hby d7_11)
  have N181 := Fr.snoc X181 N177 f0
  have O182 : Ext Z.heap h181 := xw O178 W181 f0
  refine go s181 ?_
  show Ends p e below _ T181 (mkF m 14 #[rv a, rv x, iv (0 : Int32)] [])
  have K183 : Keep h0 h181 [a] := (Keep.wr (Keep.wr (Keep.refl _ _) W177 (Or.inl (List.mem_of_getElem? (i := 0) rfl))) W181 (Or.inl (List.mem_of_getElem? (i := 0) rfl)))
  have F184 := (Fld.other W181 (Fld.same W177 F_value) (Or.inr (slot_ne (a0 := a0) (Or.inr (hwi hw 33 rfl)) (Or.inr (hwi hw 31 rfl)) (by decide) (t := (.array .byte)) (t' := .byte) (by decide) (by decide))))
  have F185 := (Fld.same W181 F180)
  exact endV X181 hx hret (hb hby d7_14) (lvN X181 hlk e181 (fun _ => rfl) ⟨rfl, N181, K183, F184, F185⟩ (by decide) (by decide))
set_option maxRecDepth 65536 in
set_option maxHeartbeats 40000000 in
theorem rm_cvalueOf {l : Launch} {Z : State} {a0 : Array Value} (hw : ∀ d ∈ tables_1, d.before a0 Z = true) (y : Int32) (h0 : Heap) (O0 : Ext Z.heap h0) (l0 : ¬ (255 : Int32) < y) (cz : Int32) (SCS : Sta Z Z.heap "java/lang/String" "COMPACT_STRINGS" "Z" (.int cz)) (hcz : ¬ cz = (0 : Int32)) :
    Con l (⟨"java/lang/String", "valueOf", "(C)Ljava/lang/String;"⟩ : MethodName) jdk_42_method_139_code 1 (some (.object "java/lang/String")) ({ frames := 2, cells := 2, slots := 5, locals := 27 } : Room) Z #[(.int y)] h0 (fun v h L => ∃ (a b : Addr) (k : ClassId), v = some (.ref a) ∧ Fr Z.heap.size L ∧ Keep h0 h [] ∧ h0.size ≤ a ∧ h0.size ≤ b ∧ a ≠ b ∧ Exa Z h a "java/lang/String" ∧ Fld Z h a "java/lang/String" "value" "[B" (.ref b) ∧ Fld Z h a "java/lang/String" "coder" "B" (.int 0) ∧ Arv Z h b k .byte (1 : Int32) [(.int y.toInt8.toInt32)] (.int 0)) := by
  refine Con.of (plainFor_of_name pn_0) (Ls := #[iv y]) (fun m => efOf rfl) ?_
  intro p e s m below meth c T0 X0 hx hZ hby hml hown hnm hret hlk e0
  obtain ⟨T186, X186, e186, s186⟩ := getS2 X0 hx hZ hown (host := "") (Or.inl (hwi hw 18 rfl)) Via.refl e0 (Sta.ext O0 SCS) (g := (mkF m 0 #[iv y] [])) rfl (hb hby d8_0)
  refine go s186 ?_
  show Ends p e below _ T186 (mkF m 3 #[iv y] [(.int cz)])
  refine go (fun _ => XS.ifNo X186.here hx rfl (hb hby d8_3) rfl (XT.i0_eq_f hcz)) ?_
  show Ends p e below _ T186 (mkF m 6 #[iv y] [])
  refine go (fun _ => XS.iloadN X186.here hx rfl (hb hby d8_6) rfl) ?_
  show Ends p e below _ T186 (mkF m 7 #[iv y] [(.int y)])
  refine cStat X186 hx hZ hown (by rw [hml]; rfl) e186 (hwi hw 91 rfl) (hwi hw 92 rfl) (hwi hw 93 rfl) (hwi hw 94 rfl) [(.int y)] [] rfl (rm_can hw y _ l0) (hb hby d8_7) rfl (lenOf pd_7 rfl) (by decide) (by decide) (Nat.le_of_ble_eq_true rfl) (by decide) (by decide) ?_
  rintro v187 T187 h187 L187 X187 e187 ⟨rfl, N187, rfl⟩
  have N187a := Fr.app (Fr.nil _) N187
  show Ends p e below _ T187 (mkF m 10 #[iv y] [(.int (1 : Int32))])
  refine go (fun _ => XS.ifNo X187.here hx rfl (hb hby d8_10) rfl (XT.i0_eq_f ((by decide) : ¬ ((1 : Int32) = (0 : Int32))))) ?_
  show Ends p e below _ T187 (mkF m 13 #[iv y] [])
  obtain ⟨T188, h188, X188, e188, E188, A188, D188, U188, s188⟩ := newO X187 hx hZ hown (hwi hw 95 rfl) (hwi hw 5 rfl) (hwi hw 6 rfl) e187 (g := (mkF m 13 #[iv y] [])) rfl (hb hby d8_13) (by decide) (by decide)
  obtain ⟨a188, g188⟩ : ∃ z : Addr, z = h0.size := ⟨_, rfl⟩
  have f188 : Z.heap.size ≤ a188 := by rw [g188]; exact (O0).1
  have K189 : Keep h0 h0 [] := (Keep.refl _ _)
  have b188 : h0.size ≤ a188 := by rw [g188]; exact (K189).1
  rw [← g188] at A188 D188 U188 s188
  have O190 : Ext Z.heap h188 := xx O0 E188
  refine go s188 ?_
  show Ends p e below _ T188 (mkF m 16 #[iv y] [(.ref a188)])
  refine go (fun _ => XS.dup X188.here hx rfl (hb hby d8_16) rfl rfl) ?_
  refine go (fun _ => XS.iloadN X188.here hx rfl (hb hby d8_17) rfl) ?_
  show Ends p e below _ T188 (mkF m 18 #[iv y] [(.int y), (.ref a188), (.ref a188)])
  refine cStat X188 hx hZ hown (by rw [hml]; rfl) e188 (hwi hw 96 rfl) (hwi hw 97 rfl) (hwi hw 93 rfl) (hwi hw 98 rfl) [(.int y)] [(.ref a188), (.ref a188)] rfl (rm_tobytes hw y _ O190) (hb hby d8_18) rfl (lenOf pd_8 rfl) (by decide) (by decide) (Nat.le_of_ble_eq_true rfl) (by decide) (by decide) ?_
  rintro v191 T191 h191 L191 X191 e191 ⟨b191, k191, rfl, N191, K191, g191, V191⟩
  have N191a := Fr.app N187a N191
  have n192 : a188 ≠ b191 := Nat.ne_of_lt (Nat.lt_of_lt_of_le (A188.lt) g191)
  have f193 : Z.heap.size ≤ b191 := Nat.le_trans (O190).1 g191
  have K194 : Keep h0 h188 [] := (Keep.ext K189 E188)
  have b193 : h0.size ≤ b191 := Nat.le_trans (K194).1 g191
  have O195 : Ext Z.heap h191 := xk O190 K191 all0
  show Ends p e below _ T191 (mkF m 21 #[iv y] [(.ref b191), (.ref a188), (.ref a188)])
  refine go (fun _ => XT.iconstV X191.here hx rfl (0 : Int32) (hb hby d8_21) (by decide)) ?_
  show Ends p e below _ T191 (mkF m 22 #[iv y] [(.int (0 : Int32)), (.ref b191), (.ref a188), (.ref a188)])
  have F196 := (Exa.keep A188 K191)
  have F197 := (Fld.keep (D188 (Or.inr (hwi hw 33 rfl)) (ty := (.array .byte)) (by decide)) K191 nin0)
  have F198 := (Fld.keep (D188 (Or.inr (hwi hw 31 rfl)) (ty := .byte) (by decide)) K191 nin0)
  refine cInit X191 hx hZ hown (by rw [hml]; rfl) e191 (hwi hw 99 rfl) (hwi hw 100 rfl) (hwi hw 6 rfl) (hwi hw 101 rfl) a188 [(.ref b191), (.int (0 : Int32))] [(.ref a188)] rfl (rm_strbb hw a188 b191 _ O195 f188 F196 F197 F198  ) (hb hby d8_22) rfl (lenOf pd_9 rfl) rfl (by decide) (by decide) (Nat.le_of_ble_eq_true rfl) (by decide) (by decide) ?_
  rintro v199 T199 h199 L199 X199 e199 ⟨rfl, N199, K199, F199_0, F199_1⟩
  have N199a := Fr.app N191a N199
  have O200 : Ext Z.heap h199 := xk O195 K199 (allS f188 all0)
  show Ends p e below _ T199 (mkF m 25 #[iv y] [(.ref a188)])
  have K201 : Keep h0 h199 [] := (Keep.trans (Keep.trans K194 K191 all0) K199 (allS (Or.inr b188) all0))
  have F202 := (Exa.keep F196 K199)
  have F203 := (Arv.keep V191 K199 (ninS (Ne.symm n192) nin0))
  exact endA X199 hx hret rfl rfl (hb hby d8_25) (lvN X199 hlk e199 (fun h => by rw [hret] at h; cases h) ⟨a188, b191, _, rfl, N199a, K201, b188, b193, n192, F202, F199_0, F199_1, F203⟩ (by decide) (by decide))
theorem own_box {x : Int32} (h1 : ¬ x < (-128 : Int32)) (h2 : ¬ (127 : Int32) < x) : ¬ (x + 128) < 0 ∧ (x + 128) < (256 : Int32) := by
  have e1 : (-128 : Int32).toInt = -128 := by decide
  have e2 : (127 : Int32).toInt = 127 := by decide
  have e3 : (128 : Int32).toInt = 128 := by decide
  have e4 : (256 : Int32).toInt = 256 := by decide
  have e5 : (0 : Int32).toInt = 0 := by decide
  have q := c_iadd x 128
  have r := rng32 (x + 128)
  simp only [Int32.lt_iff_toInt_lt, e1, e2, e3, e4, e5] at *
  omega
theorem own_boxv (x : Int32) : x + 128 - 128 = x := by
  apply Int32.toInt_inj.mp
  have q := c_iadd x 128
  have r := c_isub (x + 128) 128
  have e3 : (128 : Int32).toInt = 128 := by decide
  have r1 := rng32 (x + 128 - 128)
  have r2 := rng32 x
  rw [e3] at q r
  omega
set_option maxRecDepth 65536 in
set_option maxHeartbeats 40000000 in
theorem rm_number {l : Launch} {Z : State} {a0 : Array Value} (hw : ∀ d ∈ tables_1, d.before a0 Z = true) (a : Addr) (h0 : Heap)  :
    Con l (⟨"java/lang/Number", "<init>", "()V"⟩ : MethodName) jdk_18_method_1_code 1 none ({ frames := 1, cells := 0, slots := 0, locals := 12 } : Room) Z #[(.ref a)] h0 (fun v h L => v = none ∧ Fr Z.heap.size L ∧ h0 = h) := by
  refine Con.of (plainFor_of_name pn_10) (Ls := #[rv a]) (fun m => efOf rfl) ?_
  intro p e s m below meth c T0 X0 hx hZ hby hml hown hnm hret hlk e0
  refine go (fun _ => XS.aloadN X0.here hx rfl (hb hby d9_0) rfl rfl) ?_
  show Ends p e below _ T0 (mkF m 1 #[rv a] [(.ref a)])
  obtain ⟨T204, X204, e204, s204⟩ := initO X0 hx hZ hown (hwi hw 82 rfl) (hwi hw 16 rfl) (hwi hw 17 rfl) e0 (g := (mkF m 1 #[rv a] [(.ref a)])) rfl (by rw [hml]; rfl) rfl (hb hby d9_1) (by decide) (W := 0) (by show 2 * 0 + _ ≤ _; exact Nat.le_of_eq rfl) (by decide)
  refine go s204 ?_
  show Ends p e below _ T204 (mkF m 4 #[rv a] [])
  exact endV X204 hx hret (hb hby d9_4) (lvN X204 hlk e204 (fun _ => rfl) ⟨rfl, (Fr.nil _), rfl⟩ (by decide) (by decide))
set_option maxRecDepth 65536 in
set_option maxHeartbeats 40000000 in
theorem rm_integer {l : Launch} {Z : State} {a0 : Array Value} (hw : ∀ d ∈ tables_1, d.before a0 Z = true) (a : Addr) (x : Int32) (h0 : Heap) (O0 : Ext Z.heap h0) (f0 : Z.heap.size ≤ a) (E0 : Exa Z h0 a "java/lang/Integer") (F_value : Fld Z h0 a "java/lang/Integer" "value" "I" (.int (0 : Int32)))   :
    Con l (⟨"java/lang/Integer", "<init>", "(I)V"⟩ : MethodName) jdk_33_method_23_code 2 none ({ frames := 2, cells := 0, slots := 0, locals := 24 } : Room) Z #[(.ref a), (.int x)] h0 (fun v h L => v = none ∧ Fr Z.heap.size L ∧ Keep h0 h [a] ∧ Fld Z h a "java/lang/Integer" "value" "I" (.int x)) := by
  refine Con.of (plainFor_of_name pn_11) (Ls := #[rv a, iv x]) (fun m => efOf rfl) ?_
  intro p e s m below meth c T0 X0 hx hZ hby hml hown hnm hret hlk e0
  refine go (fun _ => XS.aloadN X0.here hx rfl (hb hby d10_0) rfl rfl) ?_
  show Ends p e below _ T0 (mkF m 1 #[rv a, iv x] [(.ref a)])
  refine cInit X0 hx hZ hown (by rw [hml]; rfl) e0 (hwi hw 76 rfl) (hwi hw 77 rfl) (hwi hw 80 rfl) (hwi hw 81 rfl) a [] [] rfl (rm_number hw a _) (hb hby d10_1) rfl (lenOf pd_12 rfl) rfl (by decide) (by decide) (Nat.le_of_ble_eq_true rfl) (by decide) (by decide) ?_
  rintro v205 T205 h205 L205 X205 e205 ⟨rfl, N205, rfl⟩
  have N205a := Fr.app (Fr.nil _) N205
  show Ends p e below _ T205 (mkF m 4 #[rv a, iv x] [])
  refine go (fun _ => XS.aloadN X205.here hx rfl (hb hby d10_4) rfl rfl) ?_
  refine go (fun _ => XS.iloadN X205.here hx rfl (hb hby d10_5) rfl) ?_
  show Ends p e below _ T205 (mkF m 6 #[rv a, iv x] [(.int x), (.ref a)])
  obtain ⟨T206, h206, X206, e206, W206, s206⟩ := putF X205 hx hZ hown (host := "") (Or.inl (hwi hw 83 rfl)) Via.refl e205 F_value E0 (Or.inr ⟨(hwi hw 84 rfl), rfl, hnm⟩) (hwi hw 71 rfl) (ty := .int) (by decide) rfl rfl (g := (mkF m 6 #[rv a, iv x] [(.int x), (.ref a)])) rfl rfl (hb hby d10_6)
  have N206 := Fr.snoc X206 N205a f0
  have O207 : Ext Z.heap h206 := xw O0 W206 f0
  refine go s206 ?_
  show Ends p e below _ T206 (mkF m 9 #[rv a, iv x] [])
  have K208 : Keep h0 h206 [a] := (Keep.wr (Keep.refl _ _) W206 (Or.inl (List.mem_of_getElem? (i := 0) rfl)))
  have F209 := (Fld.same W206 F_value)
  exact endV X206 hx hret (hb hby d10_9) (lvN X206 hlk e206 (fun _ => rfl) ⟨rfl, N206, K208, F209⟩ (by decide) (by decide))
set_option maxRecDepth 65536 in
set_option maxHeartbeats 40000000 in
theorem rm_ivalueOf {l : Launch} {Z : State} {a0 : Array Value} (hw : ∀ d ∈ tables_1, d.before a0 Z = true) (x : Int32) (aB : Addr) (cB : Cell) (h0 : Heap) (O0 : Ext Z.heap h0) (SH : Sta Z Z.heap "java/lang/Integer$IntegerCache" "high" "I" (.int 127)) (SB : Sta Z Z.heap "java/lang/Integer$IntegerCache" "cache" "[Ljava/lang/Integer;" (.ref aB)) (BX : Bxs Z aB cB "java/lang/Integer" "I" (256 : Int32) (fun j => .int (j - 128))) :
    Con l (⟨"java/lang/Integer", "valueOf", "(I)Ljava/lang/Integer;"⟩ : MethodName) jdk_33_method_22_code 1 (some (.object "java/lang/Integer")) ({ frames := 3, cells := 1, slots := 1, locals := 38 } : Room) Z #[(.int x)] h0 (fun v h L => ∃ b, v = some (.ref b) ∧ Fr Z.heap.size L ∧ Keep h0 h [] ∧ Exa Z h b "java/lang/Integer" ∧ Fld Z h b "java/lang/Integer" "value" "I" (.int x)) := by
  refine Con.of (plainFor_of_name pn_11) (Ls := #[iv x]) (fun m => efOf rfl) ?_
  intro p e s m below meth c T0 X0 hx hZ hby hml hown hnm hret hlk e0
  refine go (fun _ => XS.iloadN X0.here hx rfl (hb hby d11_0) rfl) ?_
  refine go (fun _ => XT.bipushV X0.here hx rfl (-128 : Int32) (hb hby d11_1) (by decide)) ?_
  show Ends p e below _ T0 (mkF m 3 #[iv x] [(.int (-128 : Int32)), (.int x)])
  by_cases c3_210 : x < (-128 : Int32)
  · refine go (fun _ => XS.icmpYes X0.here hx rfl (pc0 := 3) (pc' := 23) rfl (hb hby d11_3) rfl (XT.ii_lt_t c3_210) (by decide) (by decide)) ?_
    show Ends p e below _ T0 (mkF m 23 #[iv x] [])
    obtain ⟨T211, h211, X211, e211, E211, A211, D211, U211, s211⟩ := newO X0 hx hZ hown (hwi hw 70 rfl) (hwi hw 71 rfl) (hwi hw 65 rfl) e0 (g := (mkF m 23 #[iv x] [])) rfl (hb hby d11_23) (by decide) (by decide)
    obtain ⟨a211, g211⟩ : ∃ z : Addr, z = h0.size := ⟨_, rfl⟩
    have f211 : Z.heap.size ≤ a211 := by rw [g211]; exact (O0).1
    have K212 : Keep h0 h0 [] := (Keep.refl _ _)
    have b211 : h0.size ≤ a211 := by rw [g211]; exact (K212).1
    rw [← g211] at A211 D211 U211 s211
    have O213 : Ext Z.heap h211 := xx O0 E211
    refine go s211 ?_
    show Ends p e below _ T211 (mkF m 26 #[iv x] [(.ref a211)])
    refine go (fun _ => XS.dup X211.here hx rfl (hb hby d11_26) rfl rfl) ?_
    refine go (fun _ => XS.iloadN X211.here hx rfl (hb hby d11_27) rfl) ?_
    show Ends p e below _ T211 (mkF m 28 #[iv x] [(.int x), (.ref a211), (.ref a211)])
    have F214 := (D211 (Or.inr (hwi hw 84 rfl)) (ty := .int) (by decide))
    refine cInit X211 hx hZ hown (by rw [hml]; rfl) e211 (hwi hw 72 rfl) (hwi hw 73 rfl) (hwi hw 65 rfl) (hwi hw 75 rfl) a211 [(.int x)] [(.ref a211)] rfl (rm_integer hw a211 x _ O213 f211 A211 F214  ) (hb hby d11_28) rfl (lenOf pd_13 rfl) rfl (by decide) (by decide) (Nat.le_of_ble_eq_true rfl) (by decide) (by decide) ?_
    rintro v215 T215 h215 L215 X215 e215 ⟨rfl, N215, K215, F215_0⟩
    have N215a := Fr.app (Fr.nil _) N215
    have O216 : Ext Z.heap h215 := xk O213 K215 (allS f211 all0)
    show Ends p e below _ T215 (mkF m 31 #[iv x] [(.ref a211)])
    have K217 : Keep h0 h215 [] := (Keep.trans (Keep.ext K212 E211) K215 (allS (Or.inr b211) all0))
    have F218 := (Exa.keep A211 K215)
    exact endA X215 hx hret rfl rfl (hb hby d11_31) (lvN X215 hlk e215 (fun h => by rw [hret] at h; cases h) ⟨a211, rfl, N215a, K217, F218, F215_0⟩ (by decide) (by decide))
  · refine go (fun _ => XS.icmpNo X0.here hx rfl (hb hby d11_3) rfl (XT.ii_lt_f c3_210)) ?_
    show Ends p e below _ T0 (mkF m 6 #[iv x] [])
    refine go (fun _ => XS.iloadN X0.here hx rfl (hb hby d11_6) rfl) ?_
    show Ends p e below _ T0 (mkF m 7 #[iv x] [(.int x)])
    obtain ⟨T219, X219, e219, s219⟩ := getS2 X0 hx hZ hown (host := "") (Or.inl (hwi hw 67 rfl)) Via.refl e0 (Sta.ext O0 SH) (g := (mkF m 7 #[iv x] [(.int x)])) rfl (hb hby d11_7)
    refine go s219 ?_
    show Ends p e below _ T219 (mkF m 10 #[iv x] [(.int (127 : Int32)), (.int x)])
    by_cases c10_220 : (127 : Int32) < x
    · refine go (fun _ => XS.icmpYes X219.here hx rfl (pc0 := 10) (pc' := 23) rfl (hb hby d11_10) rfl (XT.ii_gt_t c10_220) (by decide) (by decide)) ?_
      show Ends p e below _ T219 (mkF m 23 #[iv x] [])
      obtain ⟨T221, h221, X221, e221, E221, A221, D221, U221, s221⟩ := newO X219 hx hZ hown (hwi hw 70 rfl) (hwi hw 71 rfl) (hwi hw 65 rfl) e219 (g := (mkF m 23 #[iv x] [])) rfl (hb hby d11_23) (by decide) (by decide)
      obtain ⟨a221, g221⟩ : ∃ z : Addr, z = h0.size := ⟨_, rfl⟩
      have f221 : Z.heap.size ≤ a221 := by rw [g221]; exact (O0).1
      have K222 : Keep h0 h0 [] := (Keep.refl _ _)
      have b221 : h0.size ≤ a221 := by rw [g221]; exact (K222).1
      rw [← g221] at A221 D221 U221 s221
      have O223 : Ext Z.heap h221 := xx O0 E221
      refine go s221 ?_
      show Ends p e below _ T221 (mkF m 26 #[iv x] [(.ref a221)])
      refine go (fun _ => XS.dup X221.here hx rfl (hb hby d11_26) rfl rfl) ?_
      refine go (fun _ => XS.iloadN X221.here hx rfl (hb hby d11_27) rfl) ?_
      show Ends p e below _ T221 (mkF m 28 #[iv x] [(.int x), (.ref a221), (.ref a221)])
      have F224 := (D221 (Or.inr (hwi hw 84 rfl)) (ty := .int) (by decide))
      refine cInit X221 hx hZ hown (by rw [hml]; rfl) e221 (hwi hw 72 rfl) (hwi hw 73 rfl) (hwi hw 65 rfl) (hwi hw 75 rfl) a221 [(.int x)] [(.ref a221)] rfl (rm_integer hw a221 x _ O223 f221 A221 F224  ) (hb hby d11_28) rfl (lenOf pd_13 rfl) rfl (by decide) (by decide) (Nat.le_of_ble_eq_true rfl) (by decide) (by decide) ?_
      rintro v225 T225 h225 L225 X225 e225 ⟨rfl, N225, K225, F225_0⟩
      have N225a := Fr.app (Fr.nil _) N225
      have O226 : Ext Z.heap h225 := xk O223 K225 (allS f221 all0)
      show Ends p e below _ T225 (mkF m 31 #[iv x] [(.ref a221)])
      have K227 : Keep h0 h225 [] := (Keep.trans (Keep.ext K222 E221) K225 (allS (Or.inr b221) all0))
      have F228 := (Exa.keep A221 K225)
      exact endA X225 hx hret rfl rfl (hb hby d11_31) (lvN X225 hlk e225 (fun h => by rw [hret] at h; cases h) ⟨a221, rfl, N225a, K227, F228, F225_0⟩ (by decide) (by decide))
    · refine go (fun _ => XS.icmpNo X219.here hx rfl (hb hby d11_10) rfl (XT.ii_gt_f c10_220)) ?_
      show Ends p e below _ T219 (mkF m 13 #[iv x] [])
      obtain ⟨T229, X229, e229, s229⟩ := getS2 X219 hx hZ hown (host := "") (Or.inl (hwi hw 69 rfl)) Via.refl e219 (Sta.ext O0 SB) (g := (mkF m 13 #[iv x] [])) rfl (hb hby d11_13)
      refine go s229 ?_
      show Ends p e below _ T229 (mkF m 16 #[iv x] [(.ref aB)])
      refine go (fun _ => XS.iloadN X229.here hx rfl (hb hby d11_16) rfl) ?_
      refine go (fun _ => XT.sipushV X229.here hx rfl (128 : Int32) (hb hby d11_17) (by decide)) ?_
      refine go (fun _ => XS.iadd X229.here hx rfl (hb hby d11_20) rfl) ?_
      show Ends p e below _ T229 (mkF m 21 #[iv x] [(.int (x + (128 : Int32))), (.ref aB)])
      have q230 := own_box c3_210 c10_220
      have i230 := inb_of BX.2.1 q230
      obtain ⟨b230, b1230, b2230, b3230⟩ := BX.2.2.2 _ i230
      have A230 := (BX.ext O0).1
      refine go (fun _ => X229.aaload hx (j := (x + (128 : Int32))) (v := .ref b230) (by rw [e229]; exact A230.1) (State.isArrayOf_alike hZ.alike A230.2.1) rfl A230.2.2 i230 b1230 (g := (mkF m 21 #[iv x] [(.int (x + (128 : Int32))), (.ref aB)])) rfl rfl (hb hby d11_21) _) ?_
      show Ends p e below _ T229 (mkF m 22 #[iv x] [(.ref b230)])
      simp only [own_boxv] at b3230
      have K231 : Keep h0 h0 [] := (Keep.refl _ _)
      have F232 := (Exa.ext O0 b2230)
      have F233 := (Fld.ext O0 b3230)
      exact endA X229 hx hret rfl rfl (hb hby d11_22) (lvN X229 hlk e229 (fun h => by rw [hret] at h; cases h) ⟨b230, rfl, (Fr.nil _), K231, F232, F233⟩ (by decide) (by decide))
set_option maxRecDepth 65536 in
set_option maxHeartbeats 40000000 in
theorem rm_rnn {l : Launch} {Z : State} {a0 : Array Value} (hw : ∀ d ∈ tables_1, d.before a0 Z = true) (a : Addr) (h0 : Heap)  :
    Con l (⟨"java/util/Objects", "requireNonNull", "(Ljava/lang/Object;)Ljava/lang/Object;"⟩ : MethodName) jdk_31_method_10_code 1 (some (.object "java/lang/Object")) ({ frames := 0, cells := 0, slots := 0, locals := 0 } : Room) Z #[(.ref a)] h0 (fun v h L => v = some (.ref a) ∧ Fr Z.heap.size L ∧ h0 = h) := by
  refine Con.of (plainFor_of_name pn_14) (Ls := #[rv a]) (fun m => efOf rfl) ?_
  intro p e s m below meth c T0 X0 hx hZ hby hml hown hnm hret hlk e0
  refine go (fun _ => XS.aloadN X0.here hx rfl (hb hby d12_0) rfl rfl) ?_
  show Ends p e below _ T0 (mkF m 1 #[rv a] [(.ref a)])
  refine go (fun _ => XT.ifnonnullYes X0.here hx rfl (pc0 := 1) (pc' := 12) rfl (hb hby d12_1) rfl (by decide) (by decide)) ?_
  show Ends p e below _ T0 (mkF m 12 #[rv a] [])
  refine go (fun _ => XS.aloadN X0.here hx rfl (hb hby d12_12) rfl rfl) ?_
  show Ends p e below _ T0 (mkF m 13 #[rv a] [(.ref a)])
  exact endA X0 hx hret rfl rfl (hb hby d12_13) (lvN X0 hlk e0 (fun h => by rw [hret] at h; cases h) ⟨rfl, (Fr.nil _), rfl⟩ (by decide) (by decide))
set_option maxRecDepth 65536 in
set_option maxHeartbeats 40000000 in
theorem rm_mv {l : Launch} {Z : State} {a0 : Array Value} (hw : ∀ d ∈ tables_1, d.before a0 Z = true) (a : Addr) (x : Addr) (w : Value) (h0 : Heap) (O0 : Ext Z.heap h0) (f0 : Z.heap.size ≤ a) (E0 : Exa Z h0 a "com/example/durable_state/durablestate/io/MarkedValue") (F_migration : Fld Z h0 a "com/example/durable_state/durablestate/io/MarkedValue" "migration" "Ljava/lang/String;" .null) (F_value : Fld Z h0 a "com/example/durable_state/durablestate/io/MarkedValue" "value" "Ljava/lang/Object;" .null) (wr : w.isRef = true) (Ex : Exa Z h0 x "java/lang/String") :
    Con l (⟨"com/example/durable_state/durablestate/io/MarkedValue", "<init>", "(Ljava/lang/String;Ljava/lang/Object;)V"⟩ : MethodName) prog_10_method_1_code 3 none ({ frames := 1, cells := 0, slots := 0, locals := 13 } : Room) Z #[(.ref a), (.ref x), w] h0 (fun v h L => v = none ∧ Fr Z.heap.size L ∧ Keep h0 h [a] ∧ Fld Z h a "com/example/durable_state/durablestate/io/MarkedValue" "migration" "Ljava/lang/String;" (.ref x) ∧ Fld Z h a "com/example/durable_state/durablestate/io/MarkedValue" "value" "Ljava/lang/Object;" w) := by
  refine Con.of (plainFor_of_name pn_15) (Ls := #[rv a, rv x, .val w]) (fun m => by rcases ref_cases wr with rfl | ⟨_, rfl⟩ <;> first | rfl | (simp [entryFrame, mkF, argsToLocals, Value.category]; done)) ?_
  intro p e s m below meth c T0 X0 hx hZ hby hml hown hnm hret hlk e0
  refine go (fun _ => XS.aloadN X0.here hx rfl (hb hby d13_0) rfl rfl) ?_
  show Ends p e below _ T0 (mkF m 1 #[rv a, rv x, .val w] [(.ref a)])
  obtain ⟨T234, X234, e234, s234⟩ := initO X0 hx hZ hown (hwi hw 43 rfl) (hwi hw 16 rfl) (hwi hw 17 rfl) e0 (g := (mkF m 1 #[rv a, rv x, .val w] [(.ref a)])) rfl (by rw [hml]; rfl) rfl (hb hby d13_1) (by decide) (W := 0) (by show 2 * 0 + _ ≤ _; exact Nat.le_of_eq rfl) (by decide)
  refine go s234 ?_
  show Ends p e below _ T234 (mkF m 4 #[rv a, rv x, .val w] [])
  refine go (fun _ => XS.aloadN X234.here hx rfl (hb hby d13_4) rfl rfl) ?_
  refine go (fun _ => XS.aloadN X234.here hx rfl (hb hby d13_5) rfl rfl) ?_
  show Ends p e below _ T234 (mkF m 6 #[rv a, rv x, .val w] [(.ref x), (.ref a)])
  refine cStat X234 hx hZ hown (by rw [hml]; rfl) e234 (hwi hw 44 rfl) (hwi hw 45 rfl) (hwi hw 46 rfl) (hwi hw 47 rfl) [(.ref x)] [(.ref a)] rfl (rm_rnn hw x _) (hb hby d13_6) rfl (lenOf pd_16 rfl) (by decide) (by decide) (Nat.le_of_ble_eq_true rfl) (by decide) (by decide) ?_
  rintro v235 T235 h235 L235 X235 e235 ⟨rfl, N235, rfl⟩
  have N235a := Fr.app (Fr.nil _) N235
  show Ends p e below _ T235 (mkF m 9 #[rv a, rv x, .val w] [(.ref x), (.ref a)])
  obtain ⟨T236, X236, e236, s236⟩ := castY X235 hx hZ hown (hwi hw 48 rfl) e235 (Ins.self Ex) (g := (mkF m 9 #[rv a, rv x, .val w] [(.ref x), (.ref a)])) rfl rfl (hb hby d13_9)
  refine go s236 ?_
  show Ends p e below _ T236 (mkF m 12 #[rv a, rv x, .val w] [(.ref x), (.ref a)])
  obtain ⟨T237, h237, X237, e237, W237, s237⟩ := putF X236 hx hZ hown (host := "") (Or.inl (hwi hw 49 rfl)) Via.refl e236 F_migration E0 (Or.inr ⟨(hwi hw 50 rfl), rfl, hnm⟩) (hwi hw 38 rfl) (ty := (.object "java/lang/String")) (by decide) rfl rfl (g := (mkF m 12 #[rv a, rv x, .val w] [(.ref x), (.ref a)])) rfl rfl (hb hby d13_12)
  have N237 := Fr.snoc X237 N235a f0
  have O238 : Ext Z.heap h237 := xw O0 W237 f0
  refine go s237 ?_
  show Ends p e below _ T237 (mkF m 15 #[rv a, rv x, .val w] [])
  refine go (fun _ => XS.aloadN X237.here hx rfl (hb hby d13_15) rfl rfl) ?_
  refine go (fun _ => XS.aloadN X237.here hx rfl (hb hby d13_16) rfl wr) ?_
  show Ends p e below _ T237 (mkF m 17 #[rv a, rv x, .val w] [w, (.ref a)])
  have F239 := (Exa.wr W237 E0)
  have F240 := (Fld.other W237 F_value (Or.inr (slot_ne (a0 := a0) (Or.inr (hwi hw 52 rfl)) (Or.inr (hwi hw 50 rfl)) (by decide) (t := (.object "java/lang/Object")) (t' := (.object "java/lang/String")) (by decide) (by decide))))
  obtain ⟨T241, h241, X241, e241, W241, s241⟩ := putF X237 hx hZ hown (host := "") (Or.inl (hwi hw 51 rfl)) Via.refl e237 F240 F239 (Or.inr ⟨(hwi hw 52 rfl), rfl, hnm⟩) (hwi hw 38 rfl) (ty := (.object "java/lang/Object")) (by decide) (by rcases ref_cases wr with h | ⟨b, h⟩ <;> rw [h] <;> rfl) (by rcases ref_cases wr with h | ⟨b, h⟩ <;> rw [h] <;> rfl) (g := (mkF m 17 #[rv a, rv x, .val w] [w, (.ref a)])) rfl rfl (hb hby d13_17)
  have N241 := Fr.snoc X241 N237 f0
  have O242 : Ext Z.heap h241 := xw O238 W241 f0
  refine go s241 ?_
  show Ends p e below _ T241 (mkF m 20 #[rv a, rv x, .val w] [])
  have K243 : Keep h0 h241 [a] := (Keep.wr (Keep.wr (Keep.refl _ _) W237 (Or.inl (List.mem_of_getElem? (i := 0) rfl))) W241 (Or.inl (List.mem_of_getElem? (i := 0) rfl)))
  have F244 := (Fld.other W241 (Fld.same W237 F_migration) (Or.inr (slot_ne (a0 := a0) (Or.inr (hwi hw 50 rfl)) (Or.inr (hwi hw 52 rfl)) (by decide) (t := (.object "java/lang/String")) (t' := (.object "java/lang/Object")) (by decide) (by decide))))
  have F245 := (Fld.same W241 F240)
  exact endV X241 hx hret (hb hby d13_20) (lvN X241 hlk e241 (fun _ => rfl) ⟨rfl, N241, K243, F244, F245⟩ (by decide) (by decide))
set_option maxRecDepth 65536 in
set_option maxHeartbeats 40000000 in
theorem rm_moN {l : Launch} {Z : State} {a0 : Array Value} (hw : ∀ d ∈ tables_1, d.before a0 Z = true)  (h0 : Heap)  :
    Con l (⟨"com/example/durable_state/durablestate/io/MarkedValue", "markOf", "(Ljava/lang/Object;)Ljava/lang/String;"⟩ : MethodName) prog_10_method_3_code 1 (some (.object "java/lang/String")) ({ frames := 0, cells := 0, slots := 0, locals := 0 } : Room) Z #[.null] h0 (fun v h L => v = some .null ∧ Fr Z.heap.size L ∧ h0 = h) := by
  refine Con.of (plainFor_of_name pn_15) (Ls := #[.val .null]) (fun m => efOf rfl) ?_
  intro p e s m below meth c T0 X0 hx hZ hby hml hown hnm hret hlk e0
  refine go (fun _ => XS.aloadN X0.here hx rfl (hb hby d14_0) rfl rfl) ?_
  show Ends p e below _ T0 (mkF m 1 #[.val .null] [.null])
  refine go (Jvm.Stand.instanceofNull X0 hx (g := (mkF m 1 #[.val .null] [.null])) rfl rfl (hb hby d14_1)) ?_
  show Ends p e below _ T0 (mkF m 4 #[.val .null] [(.int (0 : Int32))])
  refine go (fun _ => XS.ifYes X0.here hx rfl (pc0 := 4) (pc' := 17) rfl (hb hby d14_4) rfl (XT.i0_eq_t ((by decide) : (0 : Int32) = (0 : Int32))) (by decide) (by decide)) ?_
  show Ends p e below _ T0 (mkF m 17 #[.val .null] [])
  refine go (fun _ => XS.aconstNull X0.here hx rfl (hb hby d14_17)) ?_
  show Ends p e below _ T0 (mkF m 18 #[.val .null] [.null])
  exact endA X0 hx hret rfl rfl (hb hby d14_18) (lvN X0 hlk e0 (fun h => by rw [hret] at h; cases h) ⟨rfl, (Fr.nil _), rfl⟩ (by decide) (by decide))
set_option maxRecDepth 65536 in
set_option maxHeartbeats 40000000 in
theorem rm_moM {l : Launch} {Z : State} {a0 : Array Value} (hw : ∀ d ∈ tables_1, d.before a0 Z = true) (a x : Addr) (h0 : Heap) (E0 : Exa Z h0 a "com/example/durable_state/durablestate/io/MarkedValue") (F0 : Fld Z h0 a "com/example/durable_state/durablestate/io/MarkedValue" "migration" "Ljava/lang/String;" (.ref x)) :
    Con l (⟨"com/example/durable_state/durablestate/io/MarkedValue", "markOf", "(Ljava/lang/Object;)Ljava/lang/String;"⟩ : MethodName) prog_10_method_3_code 1 (some (.object "java/lang/String")) ({ frames := 0, cells := 0, slots := 0, locals := 0 } : Room) Z #[(.ref a)] h0 (fun v h L => v = some (.ref x) ∧ Fr Z.heap.size L ∧ h0 = h) := by
  refine Con.of (plainFor_of_name pn_15) (Ls := #[rv a]) (fun m => efOf rfl) ?_
  intro p e s m below meth c T0 X0 hx hZ hby hml hown hnm hret hlk e0
  refine go (fun _ => XS.aloadN X0.here hx rfl (hb hby d14_0) rfl rfl) ?_
  show Ends p e below _ T0 (mkF m 1 #[rv a] [(.ref a)])
  obtain ⟨T247, X247, e247, s247⟩ := instY X0 hx hZ hown (hwi hw 56 rfl) e0 (Ins.self E0) (g := (mkF m 1 #[rv a] [(.ref a)])) rfl rfl (hb hby d14_1)
  refine go s247 ?_
  show Ends p e below _ T247 (mkF m 4 #[rv a] [(.int (1 : Int32))])
  refine go (fun _ => XS.ifNo X247.here hx rfl (hb hby d14_4) rfl (XT.i0_eq_f ((by decide) : ¬ ((1 : Int32) = (0 : Int32))))) ?_
  show Ends p e below _ T247 (mkF m 7 #[rv a] [])
  refine go (fun _ => XS.aloadN X247.here hx rfl (hb hby d14_7) rfl rfl) ?_
  show Ends p e below _ T247 (mkF m 8 #[rv a] [(.ref a)])
  obtain ⟨T248, X248, e248, s248⟩ := castY X247 hx hZ hown (hwi hw 56 rfl) e247 (Ins.self E0) (g := (mkF m 8 #[rv a] [(.ref a)])) rfl rfl (hb hby d14_8)
  refine go s248 ?_
  show Ends p e below _ T248 (mkF m 11 #[rv a] [(.ref a)])
  obtain ⟨T249, X249, e249, s249⟩ := getF X248 hx hZ hown (host := "") (Or.inl (hwi hw 49 rfl)) Via.refl e248 F0 (g := (mkF m 11 #[rv a] [(.ref a)])) rfl rfl (hb hby d14_11)
  refine go s249 ?_
  show Ends p e below _ T249 (mkF m 14 #[rv a] [(.ref x)])
  refine go (fun _ => XS.goto X249.here hx rfl (pc0 := 14) (pc' := 18) rfl (hb hby d14_14) (by decide) (by decide)) ?_
  show Ends p e below _ T249 (mkF m 18 #[rv a] [(.ref x)])
  exact endA X249 hx hret rfl rfl (hb hby d14_18) (lvN X249 hlk e249 (fun h => by rw [hret] at h; cases h) ⟨rfl, (Fr.nil _), rfl⟩ (by decide) (by decide))
set_option maxRecDepth 65536 in
set_option maxHeartbeats 40000000 in
theorem rm_moS {l : Launch} {Z : State} {a0 : Array Value} (hw : ∀ d ∈ tables_1, d.before a0 Z = true) (a : Addr) (h0 : Heap) (E0 : Exa Z h0 a "java/lang/String") :
    Con l (⟨"com/example/durable_state/durablestate/io/MarkedValue", "markOf", "(Ljava/lang/Object;)Ljava/lang/String;"⟩ : MethodName) prog_10_method_3_code 1 (some (.object "java/lang/String")) ({ frames := 0, cells := 0, slots := 0, locals := 0 } : Room) Z #[(.ref a)] h0 (fun v h L => v = some .null ∧ Fr Z.heap.size L ∧ h0 = h) := by
  refine Con.of (plainFor_of_name pn_15) (Ls := #[rv a]) (fun m => efOf rfl) ?_
  intro p e s m below meth c T0 X0 hx hZ hby hml hown hnm hret hlk e0
  refine go (fun _ => XS.aloadN X0.here hx rfl (hb hby d14_0) rfl rfl) ?_
  show Ends p e below _ T0 (mkF m 1 #[rv a] [(.ref a)])
  obtain ⟨T250, X250, e250, s250⟩ := instNo X0 hx hZ hown (hwi hw 56 rfl) e0 E0 (own_nsno (hwi hw 102 rfl) (hwi hw 38 rfl) (NS.step (hwi hw 102 rfl) (own_nsroot (hwi hw 87 rfl) (hwi hw 38 rfl) (by decide)) (by decide)) (by decide)) (g := (mkF m 1 #[rv a] [(.ref a)])) rfl rfl (hb hby d14_1)
  refine go s250 ?_
  show Ends p e below _ T250 (mkF m 4 #[rv a] [(.int (0 : Int32))])
  refine go (fun _ => XS.ifYes X250.here hx rfl (pc0 := 4) (pc' := 17) rfl (hb hby d14_4) rfl (XT.i0_eq_t ((by decide) : (0 : Int32) = (0 : Int32))) (by decide) (by decide)) ?_
  show Ends p e below _ T250 (mkF m 17 #[rv a] [])
  refine go (fun _ => XS.aconstNull X250.here hx rfl (hb hby d14_17)) ?_
  show Ends p e below _ T250 (mkF m 18 #[rv a] [.null])
  exact endA X250 hx hret rfl rfl (hb hby d14_18) (lvN X250 hlk e250 (fun h => by rw [hret] at h; cases h) ⟨rfl, (Fr.nil _), rfl⟩ (by decide) (by decide))
set_option maxRecDepth 65536 in
set_option maxHeartbeats 40000000 in
theorem rm_moI {l : Launch} {Z : State} {a0 : Array Value} (hw : ∀ d ∈ tables_1, d.before a0 Z = true) (a : Addr) (h0 : Heap) (E0 : Exa Z h0 a "java/lang/Integer") :
    Con l (⟨"com/example/durable_state/durablestate/io/MarkedValue", "markOf", "(Ljava/lang/Object;)Ljava/lang/String;"⟩ : MethodName) prog_10_method_3_code 1 (some (.object "java/lang/String")) ({ frames := 0, cells := 0, slots := 0, locals := 0 } : Room) Z #[(.ref a)] h0 (fun v h L => v = some .null ∧ Fr Z.heap.size L ∧ h0 = h) := by
  refine Con.of (plainFor_of_name pn_15) (Ls := #[rv a]) (fun m => efOf rfl) ?_
  intro p e s m below meth c T0 X0 hx hZ hby hml hown hnm hret hlk e0
  refine go (fun _ => XS.aloadN X0.here hx rfl (hb hby d14_0) rfl rfl) ?_
  show Ends p e below _ T0 (mkF m 1 #[rv a] [(.ref a)])
  obtain ⟨T251, X251, e251, s251⟩ := instNo X0 hx hZ hown (hwi hw 56 rfl) e0 E0 (own_nsno (hwi hw 85 rfl) (hwi hw 38 rfl) (NS.step (hwi hw 85 rfl) (NS.step (hwi hw 86 rfl) (own_nsroot (hwi hw 87 rfl) (hwi hw 38 rfl) (by decide)) (by decide)) (by decide)) (by decide)) (g := (mkF m 1 #[rv a] [(.ref a)])) rfl rfl (hb hby d14_1)
  refine go s251 ?_
  show Ends p e below _ T251 (mkF m 4 #[rv a] [(.int (0 : Int32))])
  refine go (fun _ => XS.ifYes X251.here hx rfl (pc0 := 4) (pc' := 17) rfl (hb hby d14_4) rfl (XT.i0_eq_t ((by decide) : (0 : Int32) = (0 : Int32))) (by decide) (by decide)) ?_
  show Ends p e below _ T251 (mkF m 17 #[rv a] [])
  refine go (fun _ => XS.aconstNull X251.here hx rfl (hb hby d14_17)) ?_
  show Ends p e below _ T251 (mkF m 18 #[rv a] [.null])
  exact endA X251 hx hret rfl rfl (hb hby d14_18) (lvN X251 hlk e251 (fun h => by rw [hret] at h; cases h) ⟨rfl, (Fr.nil _), rfl⟩ (by decide) (by decide))
set_option maxRecDepth 65536 in
set_option maxHeartbeats 40000000 in
theorem rm_eqself {l : Launch} {Z : State} {a0 : Array Value} (hw : ∀ d ∈ tables_1, d.before a0 Z = true) (x : Addr) (h0 : Heap)  :
    Con l (⟨"java/lang/String", "equals", "(Ljava/lang/Object;)Z"⟩ : MethodName) jdk_42_method_66_code 3 (some .boolean) ({ frames := 0, cells := 0, slots := 0, locals := 0 } : Room) Z #[(.ref x), (.ref x)] h0 (fun v h L => v = some (.int 1) ∧ Fr Z.heap.size L ∧ h0 = h) := by
  refine Con.of (plainFor_of_name pn_0) (Ls := #[rv x, rv x, .unset]) (fun m => efOf rfl) ?_
  intro p e s m below meth c T0 X0 hx hZ hby hml hown hnm hret hlk e0
  refine go (fun _ => XS.aloadN X0.here hx rfl (hb hby d15_0) rfl rfl) ?_
  refine go (fun _ => XS.aloadN X0.here hx rfl (hb hby d15_1) rfl rfl) ?_
  show Ends p e below _ T0 (mkF m 2 #[rv x, rv x, .unset] [(.ref x), (.ref x)])
  refine go (fun _ => XT.acmpNo X0.here hx rfl (hb hby d15_2) rfl rfl rfl (XT.aa_ne_f (rfl : ((.ref x) : Value) = (.ref x)))) ?_
  show Ends p e below _ T0 (mkF m 5 #[rv x, rv x, .unset] [])
  refine go (fun _ => XT.iconstV X0.here hx rfl (1 : Int32) (hb hby d15_5) (by decide)) ?_
  show Ends p e below _ T0 (mkF m 6 #[rv x, rv x, .unset] [(.int (1 : Int32))])
  exact endN X0 hx hret (by simp) (hb hby d15_6) (lvN X0 hlk e0 (fun h => by rw [hret] at h; cases h) ⟨rfl, (Fr.nil _), rfl⟩ (by decide) (by decide))
set_option maxRecDepth 65536 in
set_option maxHeartbeats 40000000 in
theorem rm_drawn {l : Launch} {Z : State} {a0 : Array Value} (hw : ∀ d ∈ tables_1, d.before a0 Z = true) (n x y w : Int32) (h0 : Heap) (O0 : Ext Z.heap h0) (cz : Int32) (SCS : Sta Z Z.heap "java/lang/String" "COMPACT_STRINGS" "Z" (.int cz)) (hcz : ¬ cz = (0 : Int32)) :
    ConW l (⟨"com/example/durable_state/durablestate/io/MarkedValueMarkOfPinLaw", "drawn", "(IIII)Ljava/lang/String;"⟩ : MethodName) method_2_code 7 (some (.object "java/lang/String")) ({ frames := 4, cells := 6, slots := 12, locals := 66 } : Room) Z own_EL #[(.int n), (.int x), (.int y), (.int w)] h0 (fun v h L => ∃ a, v = some (.ref a) ∧ Fr Z.heap.size L ∧ Keep h0 h [] ∧ h0.size ≤ a ∧ Exa Z h a "java/lang/String") := by
  refine ConW.of (plainFor_of_name pn_17) (Ls := #[iv n, iv x, iv y, iv w, .unset, .unset, .unset]) (fun m => efOf rfl) ?_
  intro p e s m below meth c T0 X0 hx hZ hby hml hown hnm hret hlk e0 hs0 hS hk H0
  refine go (fun _ => XS.iloadN X0.here hx rfl (hb hby d16_0) rfl) ?_
  refine go (fun _ => XT.sipushV X0.here hx rfl (255 : Int32) (hb hby d16_1) (by decide)) ?_
  refine go (fun _ => XS.iand X0.here hx rfl (hb hby d16_4) rfl) ?_
  refine go (fun _ => XT.i2c X0.here hx rfl (hb hby d16_5) rfl) ?_
  show Ends p e below _ T0 (mkF m 6 #[iv n, iv x, iv y, iv w, .unset, .unset, .unset] [(.int (x &&& (255 : Int32)).toUInt32.toUInt16.toUInt32.toInt32)])
  obtain ⟨ch252, hch252⟩ : ∃ z : Int32, z = (x &&& (255 : Int32)).toUInt32.toUInt16.toUInt32.toInt32 := ⟨_, rfl⟩
  have lc252 : ¬ (255 : Int32) < ch252 := by rw [hch252]; exact (own_ch _).1
  have nc252 : nar .char ch252 = ch252 := by rw [hch252]; exact own_nc _
  rw [← hch252]
  show Ends p e below _ T0 (mkF m 6 #[iv n, iv x, iv y, iv w, .unset, .unset, .unset] [(.int ch252)])
  refine go (fun _ => XS.istore X0.here hx rfl (hb hby d16_6) rfl (l' := #[iv n, iv x, iv y, iv w, iv ch252, .unset, .unset]) rfl) ?_
  refine go (fun _ => XS.iloadN X0.here hx rfl (hb hby d16_8) rfl) ?_
  refine go (fun _ => XT.sipushV X0.here hx rfl (255 : Int32) (hb hby d16_9) (by decide)) ?_
  refine go (fun _ => XS.iand X0.here hx rfl (hb hby d16_12) rfl) ?_
  refine go (fun _ => XT.i2c X0.here hx rfl (hb hby d16_13) rfl) ?_
  show Ends p e below _ T0 (mkF m 14 #[iv n, iv x, iv y, iv w, iv ch252, .unset, .unset] [(.int (y &&& (255 : Int32)).toUInt32.toUInt16.toUInt32.toInt32)])
  obtain ⟨ch253, hch253⟩ : ∃ z : Int32, z = (y &&& (255 : Int32)).toUInt32.toUInt16.toUInt32.toInt32 := ⟨_, rfl⟩
  have lc253 : ¬ (255 : Int32) < ch253 := by rw [hch253]; exact (own_ch _).1
  have nc253 : nar .char ch253 = ch253 := by rw [hch253]; exact own_nc _
  rw [← hch253]
  show Ends p e below _ T0 (mkF m 14 #[iv n, iv x, iv y, iv w, iv ch252, .unset, .unset] [(.int ch253)])
  refine go (fun _ => XS.istore X0.here hx rfl (hb hby d16_14) rfl (l' := #[iv n, iv x, iv y, iv w, iv ch252, iv ch253, .unset]) rfl) ?_
  refine go (fun _ => XS.iloadN X0.here hx rfl (hb hby d16_16) rfl) ?_
  refine go (fun _ => XT.sipushV X0.here hx rfl (255 : Int32) (hb hby d16_17) (by decide)) ?_
  refine go (fun _ => XS.iand X0.here hx rfl (hb hby d16_20) rfl) ?_
  refine go (fun _ => XT.i2c X0.here hx rfl (hb hby d16_21) rfl) ?_
  show Ends p e below _ T0 (mkF m 22 #[iv n, iv x, iv y, iv w, iv ch252, iv ch253, .unset] [(.int (w &&& (255 : Int32)).toUInt32.toUInt16.toUInt32.toInt32)])
  obtain ⟨ch254, hch254⟩ : ∃ z : Int32, z = (w &&& (255 : Int32)).toUInt32.toUInt16.toUInt32.toInt32 := ⟨_, rfl⟩
  have lc254 : ¬ (255 : Int32) < ch254 := by rw [hch254]; exact (own_ch _).1
  have nc254 : nar .char ch254 = ch254 := by rw [hch254]; exact own_nc _
  rw [← hch254]
  show Ends p e below _ T0 (mkF m 22 #[iv n, iv x, iv y, iv w, iv ch252, iv ch253, .unset] [(.int ch254)])
  refine go (fun _ => XS.istore X0.here hx rfl (hb hby d16_22) rfl (l' := #[iv n, iv x, iv y, iv w, iv ch252, iv ch253, iv ch254]) rfl) ?_
  refine go (fun _ => XS.iloadN X0.here hx rfl (hb hby d16_24) rfl) ?_
  show Ends p e below _ T0 (mkF m 25 #[iv n, iv x, iv y, iv w, iv ch252, iv ch253, iv ch254] [(.int n)])
  by_cases c25_255 : n = (0 : Int32)
  · refine go (fun _ => XS.ifNo X0.here hx rfl (hb hby d16_25) rfl (XT.i0_ne_f c25_255)) ?_
    show Ends p e below _ T0 (mkF m 28 #[iv n, iv x, iv y, iv w, iv ch252, iv ch253, iv ch254] [])
    obtain ⟨T256, h256, X256, e256, E256, A256, D256, U256, s256⟩ := newO X0 hx hZ hown (hwi hw 4 rfl) (hwi hw 5 rfl) (hwi hw 6 rfl) e0 (g := (mkF m 28 #[iv n, iv x, iv y, iv w, iv ch252, iv ch253, iv ch254] [])) rfl (hb hby d16_28) (by decide) (by decide)
    obtain ⟨a256, g256⟩ : ∃ z : Addr, z = h0.size := ⟨_, rfl⟩
    have f256 : Z.heap.size ≤ a256 := by rw [g256]; exact (O0).1
    have K257 : Keep h0 h0 [] := (Keep.refl _ _)
    have b256 : h0.size ≤ a256 := by rw [g256]; exact (K257).1
    rw [← g256] at A256 D256 U256 s256
    have C258 : CHr Z own_EL s.vm h0 s.vm h256 := CHr.ext E256 H0.1
    have hk := Nat.le_trans hk C258.2.1
    have H258 := H0.trans C258
    have O259 : Ext Z.heap h256 := xx O0 E256
    have SF256 : Safe Z own_EL s.vm h256 a256 := Safe.ext E256 H0.1 (Safe.new (by rw [g256]; exact Nat.le_refl _))
    refine go s256 ?_
    show Ends p e below _ T256 (mkF m 31 #[iv n, iv x, iv y, iv w, iv ch252, iv ch253, iv ch254] [(.ref a256)])
    refine go (fun _ => XS.dup X256.here hx rfl (hb hby d16_31) rfl rfl) ?_
    refine go (fun _ => XT.iconstV X256.here hx rfl (0 : Int32) (hb hby d16_32) (by decide)) ?_
    show Ends p e below _ T256 (mkF m 33 #[iv n, iv x, iv y, iv w, iv ch252, iv ch253, iv ch254] [(.int (0 : Int32)), (.ref a256), (.ref a256)])
    obtain ⟨T260, h260, k260, X260, e260, E260, A260, s260⟩ := newP X256 hx hZ (hwi hw 7 rfl) e256 (g := (mkF m 33 #[iv n, iv x, iv y, iv w, iv ch252, iv ch253, iv ch254] [(.int (0 : Int32)), (.ref a256), (.ref a256)])) rfl (hb hby d16_33) rfl (by decide) (cap := 0) (by decide) (by decide) (by decide) (by decide)
    obtain ⟨a260, g260⟩ : ∃ z : Addr, z = h256.size := ⟨_, rfl⟩
    have n261 : a256 ≠ a260 := fun q => absurd (A256.lt) (by rw [q, g260]; exact Nat.lt_irrefl _)
    have f260 : Z.heap.size ≤ a260 := by rw [g260]; exact (O259).1
    have K262 : Keep h0 h256 [] := (Keep.ext K257 E256)
    have b260 : h0.size ≤ a260 := by rw [g260]; exact (K262).1
    rw [← g260] at A260 s260
    have C263 : CHr Z own_EL s.vm h256 s.vm h260 := CHr.ext E260 H258.1
    have hk := Nat.le_trans hk C263.2.1
    have H263 := H258.trans C263
    have O264 : Ext Z.heap h260 := xx O259 E260
    have SF260 : Safe Z own_EL s.vm h260 a260 := Safe.ext E260 H258.1 (Safe.new (by rw [g260]; exact Nat.le_refl _))
    have V260 : Arv Z h260 a260 k260 .char (0 : Int32) [] (.int 0) := Arv.pad (Arv.new A260 (by decide)) (pad_rep [] _ 0)
    refine go s260 ?_
    show Ends p e below _ T260 (mkF m 35 #[iv n, iv x, iv y, iv w, iv ch252, iv ch253, iv ch254] [(.ref a260), (.ref a256), (.ref a256)])
    have F265 := (Exa.ext E260 A256)
    have F266 := (Fld.ext E260 (D256 (Or.inr (hwi hw 33 rfl)) (ty := (.array .byte)) (by decide)))
    have F267 := (Fld.ext E260 (D256 (Or.inr (hwi hw 31 rfl)) (ty := .byte) (by decide)))
    refine cInitW X260 hx hZ hown (by rw [hml]; rfl) e260 (own_EW hw) hS hk H263.1 (hwi hw 8 rfl) (hwi hw 9 rfl) (hwi hw 6 rfl) (hwi hw 10 rfl) a256 [(.ref a260)] [(.ref a256)] rfl (rm_new1_0 hw a256 a260 k260 _ O264 f256 F265 F266 F267 V260 n261) (hb hby d16_35) rfl (lenOf pd_18 rfl) rfl (by decide) (by decide) (Nat.le_of_ble_eq_true rfl) (by decide) (by decide) ?_
    rintro v268 T268 h268 L268 k268w X268 e268 hS hk hZ hown C268w ⟨b268, k268, rfl, N268, K268, Fv268, Fc268, V268, nb268⟩
    have N268a := Fr.app (Fr.nil _) N268
    have H269 := H263.trans C268w
    have O270 : Ext Z.heap h268 := xk O264 K268 (allS f256 all0)
    show Ends p e below _ T268 (mkF m 38 #[iv n, iv x, iv y, iv w, iv ch252, iv ch253, iv ch254] [(.ref a256)])
    have K271 : Keep h0 h268 [] := (Keep.trans (Keep.ext K262 E260) K268 (allS (Or.inr b256) all0))
    have F272 := (Exa.keep F265 K268)
    exact endA X268 hx hret rfl rfl (hb hby d16_38) (lvW X268 hlk hZ (own_EW hw) hs0 hS hk H269 e268 (fun h => by rw [hret] at h; cases h) ⟨a256, rfl, N268a, K271, b256, F272⟩ (by decide) (by decide))
  · refine go (fun _ => XS.ifYes X0.here hx rfl (pc0 := 25) (pc' := 39) rfl (hb hby d16_25) rfl (XT.i0_ne_t c25_255) (by decide) (by decide)) ?_
    show Ends p e below _ T0 (mkF m 39 #[iv n, iv x, iv y, iv w, iv ch252, iv ch253, iv ch254] [])
    refine go (fun _ => XS.iloadN X0.here hx rfl (hb hby d16_39) rfl) ?_
    refine go (fun _ => XT.iconstV X0.here hx rfl (1 : Int32) (hb hby d16_40) (by decide)) ?_
    show Ends p e below _ T0 (mkF m 41 #[iv n, iv x, iv y, iv w, iv ch252, iv ch253, iv ch254] [(.int (1 : Int32)), (.int n)])
    by_cases c41_273 : n = (1 : Int32)
    · refine go (fun _ => XS.icmpNo X0.here hx rfl (hb hby d16_41) rfl (XT.ii_ne_f c41_273)) ?_
      show Ends p e below _ T0 (mkF m 44 #[iv n, iv x, iv y, iv w, iv ch252, iv ch253, iv ch254] [])
      obtain ⟨T274, h274, X274, e274, E274, A274, D274, U274, s274⟩ := newO X0 hx hZ hown (hwi hw 4 rfl) (hwi hw 5 rfl) (hwi hw 6 rfl) e0 (g := (mkF m 44 #[iv n, iv x, iv y, iv w, iv ch252, iv ch253, iv ch254] [])) rfl (hb hby d16_44) (by decide) (by decide)
      obtain ⟨a274, g274⟩ : ∃ z : Addr, z = h0.size := ⟨_, rfl⟩
      have f274 : Z.heap.size ≤ a274 := by rw [g274]; exact (O0).1
      have K275 : Keep h0 h0 [] := (Keep.refl _ _)
      have b274 : h0.size ≤ a274 := by rw [g274]; exact (K275).1
      rw [← g274] at A274 D274 U274 s274
      have C276 : CHr Z own_EL s.vm h0 s.vm h274 := CHr.ext E274 H0.1
      have hk := Nat.le_trans hk C276.2.1
      have H276 := H0.trans C276
      have O277 : Ext Z.heap h274 := xx O0 E274
      have SF274 : Safe Z own_EL s.vm h274 a274 := Safe.ext E274 H0.1 (Safe.new (by rw [g274]; exact Nat.le_refl _))
      refine go s274 ?_
      show Ends p e below _ T274 (mkF m 47 #[iv n, iv x, iv y, iv w, iv ch252, iv ch253, iv ch254] [(.ref a274)])
      refine go (fun _ => XS.dup X274.here hx rfl (hb hby d16_47) rfl rfl) ?_
      refine go (fun _ => XT.iconstV X274.here hx rfl (1 : Int32) (hb hby d16_48) (by decide)) ?_
      show Ends p e below _ T274 (mkF m 49 #[iv n, iv x, iv y, iv w, iv ch252, iv ch253, iv ch254] [(.int (1 : Int32)), (.ref a274), (.ref a274)])
      obtain ⟨T278, h278, k278, X278, e278, E278, A278, s278⟩ := newP X274 hx hZ (hwi hw 7 rfl) e274 (g := (mkF m 49 #[iv n, iv x, iv y, iv w, iv ch252, iv ch253, iv ch254] [(.int (1 : Int32)), (.ref a274), (.ref a274)])) rfl (hb hby d16_49) rfl (by decide) (cap := 1) (by decide) (by decide) (by decide) (by decide)
      obtain ⟨a278, g278⟩ : ∃ z : Addr, z = h274.size := ⟨_, rfl⟩
      have n279 : a274 ≠ a278 := fun q => absurd (A274.lt) (by rw [q, g278]; exact Nat.lt_irrefl _)
      have f278 : Z.heap.size ≤ a278 := by rw [g278]; exact (O277).1
      have K280 : Keep h0 h274 [] := (Keep.ext K275 E274)
      have b278 : h0.size ≤ a278 := by rw [g278]; exact (K280).1
      rw [← g278] at A278 s278
      have C281 : CHr Z own_EL s.vm h274 s.vm h278 := CHr.ext E278 H276.1
      have hk := Nat.le_trans hk C281.2.1
      have H281 := H276.trans C281
      have O282 : Ext Z.heap h278 := xx O277 E278
      have SF278 : Safe Z own_EL s.vm h278 a278 := Safe.ext E278 H276.1 (Safe.new (by rw [g278]; exact Nat.le_refl _))
      have V278 : Arv Z h278 a278 k278 .char (1 : Int32) [(.int (0 : Int32))] (.int 0) := Arv.pad (Arv.new A278 (by decide)) (pad_rep [] _ 1)
      refine go s278 ?_
      show Ends p e below _ T278 (mkF m 51 #[iv n, iv x, iv y, iv w, iv ch252, iv ch253, iv ch254] [(.ref a278), (.ref a274), (.ref a274)])
      refine go (fun _ => XS.dup X278.here hx rfl (hb hby d16_51) rfl rfl) ?_
      refine go (fun _ => XT.iconstV X278.here hx rfl (0 : Int32) (hb hby d16_52) (by decide)) ?_
      refine go (fun _ => XS.iload X278.here hx rfl (hb hby d16_53) rfl) ?_
      show Ends p e below _ T278 (mkF m 55 #[iv n, iv x, iv y, iv w, iv ch252, iv ch253, iv ch254] [(.int ch252), (.int (0 : Int32)), (.ref a278), (.ref a278), (.ref a274), (.ref a274)])
      obtain ⟨cl283, A283, q283, S283, M283, H283, G283⟩ := id V278
      obtain ⟨T283, h283, X283, e283, W283, s283⟩ := stC X278 hx hZ e278 A283 (j := (0 : Int32)) (inb_of S283 (by decide)) (g := (mkF m 55 #[iv n, iv x, iv y, iv w, iv ch252, iv ch253, iv ch254] [(.int ch252), (.int (0 : Int32)), (.ref a278), (.ref a278), (.ref a274), (.ref a274)])) rfl rfl (hb hby d16_55)
      have r283 : nar .char ch252 = ch252 := nc252
      rw [r283] at W283
      have N283 := Fr.snoc X283 (Fr.nil _) f278
      have C284 : CHr Z own_EL s.vm h278 s.vm h283 := CHr.wr W283 SF278 H281.1
      have hk := Nat.le_trans hk C284.2.1
      have H284 := H281.trans C284
      have O285 : Ext Z.heap h283 := xw O282 W283 f278
      have V283 : Arv Z h283 a278 k278 .char (1 : Int32) [(.int ch252)] (.int 0) := Arv.set A283 q283 S283 M283 H283 G283 (by first | rfl | exact fits_nar_char ch252 | (rw [← r283]; exact fits_nar_char ch252)) W283 0 (by decide) (Nat.le_of_ble_eq_true rfl)
      refine go s283 ?_
      show Ends p e below _ T283 (mkF m 56 #[iv n, iv x, iv y, iv w, iv ch252, iv ch253, iv ch254] [(.ref a278), (.ref a274), (.ref a274)])
      have F286 := (Exa.wr W283 (Exa.ext E278 A274))
      have F287 := (Fld.other W283 (Fld.ext E278 (D274 (Or.inr (hwi hw 33 rfl)) (ty := (.array .byte)) (by decide))) (Or.inl n279))
      have F288 := (Fld.other W283 (Fld.ext E278 (D274 (Or.inr (hwi hw 31 rfl)) (ty := .byte) (by decide))) (Or.inl n279))
      refine cInit X283 hx hZ hown (by rw [hml]; rfl) e283 (hwi hw 8 rfl) (hwi hw 9 rfl) (hwi hw 6 rfl) (hwi hw 10 rfl) a274 [(.ref a278)] [(.ref a274)] rfl (rm_new1_1 hw a274 a278 k278 ch252 _ O285 f274 n279 F286 F287 F288 cz SCS hcz V283 lc252) (hb hby d16_56) rfl (lenOf pd_18 rfl) rfl (by decide) (by decide) (Nat.le_of_ble_eq_true rfl) (by decide) (by decide) ?_
      rintro v289 T289 h289 L289 X289 e289 ⟨b289, k289, rfl, N289, K289, g289, Fv289, Fc289, V289⟩
      have N289a := Fr.app N283 N289
      have n290 : a274 ≠ b289 := Nat.ne_of_lt (Nat.lt_of_lt_of_le (F286.lt) g289)
      have n291 : a278 ≠ b289 := Nat.ne_of_lt (Nat.lt_of_lt_of_le (V283.lt) g289)
      have f292 : Z.heap.size ≤ b289 := Nat.le_trans (O285).1 g289
      have K293 : Keep h0 h283 [] := (Keep.wr (Keep.ext K280 E278) W283 (Or.inr b278))
      have b292 : h0.size ≤ b289 := Nat.le_trans (K293).1 g289
      have F295 := (Safe.wr W283 SF278 H281.1 (Safe.ext E278 H276.1 SF274))
      have sf294 : ∀ x ∈ [a274], Safe Z own_EL s.vm h283 x := (sfS F295 sf0)
      have C294 : CHr Z own_EL s.vm h283 s.vm h289 := CHr.keep K289 sf294 H284.1
      have hk := Nat.le_trans hk C294.2.1
      have H294 := H284.trans C294
      have O296 : Ext Z.heap h289 := xk O285 K289 (allS f274 all0)
      show Ends p e below _ T289 (mkF m 59 #[iv n, iv x, iv y, iv w, iv ch252, iv ch253, iv ch254] [(.ref a274)])
      have K297 : Keep h0 h289 [] := (Keep.trans K293 K289 (allS (Or.inr b274) all0))
      have F298 := (Exa.keep F286 K289)
      exact endA X289 hx hret rfl rfl (hb hby d16_59) (lvW X289 hlk hZ (own_EW hw) hs0 hS hk H294 e289 (fun h => by rw [hret] at h; cases h) ⟨a274, rfl, N289a, K297, b274, F298⟩ (by decide) (by decide))
    · refine go (fun _ => XS.icmpYes X0.here hx rfl (pc0 := 41) (pc' := 60) rfl (hb hby d16_41) rfl (XT.ii_ne_t c41_273) (by decide) (by decide)) ?_
      show Ends p e below _ T0 (mkF m 60 #[iv n, iv x, iv y, iv w, iv ch252, iv ch253, iv ch254] [])
      refine go (fun _ => XS.iloadN X0.here hx rfl (hb hby d16_60) rfl) ?_
      refine go (fun _ => XT.iconstV X0.here hx rfl (2 : Int32) (hb hby d16_61) (by decide)) ?_
      show Ends p e below _ T0 (mkF m 62 #[iv n, iv x, iv y, iv w, iv ch252, iv ch253, iv ch254] [(.int (2 : Int32)), (.int n)])
      by_cases c62_299 : n = (2 : Int32)
      · refine go (fun _ => XS.icmpNo X0.here hx rfl (hb hby d16_62) rfl (XT.ii_ne_f c62_299)) ?_
        show Ends p e below _ T0 (mkF m 65 #[iv n, iv x, iv y, iv w, iv ch252, iv ch253, iv ch254] [])
        obtain ⟨T300, h300, X300, e300, E300, A300, D300, U300, s300⟩ := newO X0 hx hZ hown (hwi hw 4 rfl) (hwi hw 5 rfl) (hwi hw 6 rfl) e0 (g := (mkF m 65 #[iv n, iv x, iv y, iv w, iv ch252, iv ch253, iv ch254] [])) rfl (hb hby d16_65) (by decide) (by decide)
        obtain ⟨a300, g300⟩ : ∃ z : Addr, z = h0.size := ⟨_, rfl⟩
        have f300 : Z.heap.size ≤ a300 := by rw [g300]; exact (O0).1
        have K301 : Keep h0 h0 [] := (Keep.refl _ _)
        have b300 : h0.size ≤ a300 := by rw [g300]; exact (K301).1
        rw [← g300] at A300 D300 U300 s300
        have C302 : CHr Z own_EL s.vm h0 s.vm h300 := CHr.ext E300 H0.1
        have hk := Nat.le_trans hk C302.2.1
        have H302 := H0.trans C302
        have O303 : Ext Z.heap h300 := xx O0 E300
        have SF300 : Safe Z own_EL s.vm h300 a300 := Safe.ext E300 H0.1 (Safe.new (by rw [g300]; exact Nat.le_refl _))
        refine go s300 ?_
        show Ends p e below _ T300 (mkF m 68 #[iv n, iv x, iv y, iv w, iv ch252, iv ch253, iv ch254] [(.ref a300)])
        refine go (fun _ => XS.dup X300.here hx rfl (hb hby d16_68) rfl rfl) ?_
        refine go (fun _ => XT.iconstV X300.here hx rfl (2 : Int32) (hb hby d16_69) (by decide)) ?_
        show Ends p e below _ T300 (mkF m 70 #[iv n, iv x, iv y, iv w, iv ch252, iv ch253, iv ch254] [(.int (2 : Int32)), (.ref a300), (.ref a300)])
        obtain ⟨T304, h304, k304, X304, e304, E304, A304, s304⟩ := newP X300 hx hZ (hwi hw 7 rfl) e300 (g := (mkF m 70 #[iv n, iv x, iv y, iv w, iv ch252, iv ch253, iv ch254] [(.int (2 : Int32)), (.ref a300), (.ref a300)])) rfl (hb hby d16_70) rfl (by decide) (cap := 2) (by decide) (by decide) (by decide) (by decide)
        obtain ⟨a304, g304⟩ : ∃ z : Addr, z = h300.size := ⟨_, rfl⟩
        have n305 : a300 ≠ a304 := fun q => absurd (A300.lt) (by rw [q, g304]; exact Nat.lt_irrefl _)
        have f304 : Z.heap.size ≤ a304 := by rw [g304]; exact (O303).1
        have K306 : Keep h0 h300 [] := (Keep.ext K301 E300)
        have b304 : h0.size ≤ a304 := by rw [g304]; exact (K306).1
        rw [← g304] at A304 s304
        have C307 : CHr Z own_EL s.vm h300 s.vm h304 := CHr.ext E304 H302.1
        have hk := Nat.le_trans hk C307.2.1
        have H307 := H302.trans C307
        have O308 : Ext Z.heap h304 := xx O303 E304
        have SF304 : Safe Z own_EL s.vm h304 a304 := Safe.ext E304 H302.1 (Safe.new (by rw [g304]; exact Nat.le_refl _))
        have V304 : Arv Z h304 a304 k304 .char (2 : Int32) [(.int (0 : Int32)), (.int (0 : Int32))] (.int 0) := Arv.pad (Arv.new A304 (by decide)) (pad_rep [] _ 2)
        refine go s304 ?_
        show Ends p e below _ T304 (mkF m 72 #[iv n, iv x, iv y, iv w, iv ch252, iv ch253, iv ch254] [(.ref a304), (.ref a300), (.ref a300)])
        refine go (fun _ => XS.dup X304.here hx rfl (hb hby d16_72) rfl rfl) ?_
        refine go (fun _ => XT.iconstV X304.here hx rfl (0 : Int32) (hb hby d16_73) (by decide)) ?_
        refine go (fun _ => XS.iload X304.here hx rfl (hb hby d16_74) rfl) ?_
        show Ends p e below _ T304 (mkF m 76 #[iv n, iv x, iv y, iv w, iv ch252, iv ch253, iv ch254] [(.int ch252), (.int (0 : Int32)), (.ref a304), (.ref a304), (.ref a300), (.ref a300)])
        obtain ⟨cl309, A309, q309, S309, M309, H309, G309⟩ := id V304
        obtain ⟨T309, h309, X309, e309, W309, s309⟩ := stC X304 hx hZ e304 A309 (j := (0 : Int32)) (inb_of S309 (by decide)) (g := (mkF m 76 #[iv n, iv x, iv y, iv w, iv ch252, iv ch253, iv ch254] [(.int ch252), (.int (0 : Int32)), (.ref a304), (.ref a304), (.ref a300), (.ref a300)])) rfl rfl (hb hby d16_76)
        have r309 : nar .char ch252 = ch252 := nc252
        rw [r309] at W309
        have N309 := Fr.snoc X309 (Fr.nil _) f304
        have C310 : CHr Z own_EL s.vm h304 s.vm h309 := CHr.wr W309 SF304 H307.1
        have hk := Nat.le_trans hk C310.2.1
        have H310 := H307.trans C310
        have O311 : Ext Z.heap h309 := xw O308 W309 f304
        have V309 : Arv Z h309 a304 k304 .char (2 : Int32) [(.int ch252), (.int (0 : Int32))] (.int 0) := Arv.set A309 q309 S309 M309 H309 G309 (by first | rfl | exact fits_nar_char ch252 | (rw [← r309]; exact fits_nar_char ch252)) W309 0 (by decide) (Nat.le_of_ble_eq_true rfl)
        refine go s309 ?_
        show Ends p e below _ T309 (mkF m 77 #[iv n, iv x, iv y, iv w, iv ch252, iv ch253, iv ch254] [(.ref a304), (.ref a300), (.ref a300)])
        refine go (fun _ => XS.dup X309.here hx rfl (hb hby d16_77) rfl rfl) ?_
        refine go (fun _ => XT.iconstV X309.here hx rfl (1 : Int32) (hb hby d16_78) (by decide)) ?_
        refine go (fun _ => XS.iload X309.here hx rfl (hb hby d16_79) rfl) ?_
        show Ends p e below _ T309 (mkF m 81 #[iv n, iv x, iv y, iv w, iv ch252, iv ch253, iv ch254] [(.int ch253), (.int (1 : Int32)), (.ref a304), (.ref a304), (.ref a300), (.ref a300)])
        obtain ⟨cl312, A312, q312, S312, M312, H312, G312⟩ := id V309
        obtain ⟨T312, h312, X312, e312, W312, s312⟩ := stC X309 hx hZ e309 A312 (j := (1 : Int32)) (inb_of S312 (by decide)) (g := (mkF m 81 #[iv n, iv x, iv y, iv w, iv ch252, iv ch253, iv ch254] [(.int ch253), (.int (1 : Int32)), (.ref a304), (.ref a304), (.ref a300), (.ref a300)])) rfl rfl (hb hby d16_81)
        have r312 : nar .char ch253 = ch253 := nc253
        rw [r312] at W312
        have N312 := Fr.snoc X312 N309 f304
        have F314 := (Safe.wr W309 SF304 H307.1 SF304)
        have C313 : CHr Z own_EL s.vm h309 s.vm h312 := CHr.wr W312 F314 H310.1
        have hk := Nat.le_trans hk C313.2.1
        have H313 := H310.trans C313
        have O315 : Ext Z.heap h312 := xw O311 W312 f304
        have V312 : Arv Z h312 a304 k304 .char (2 : Int32) [(.int ch252), (.int ch253)] (.int 0) := Arv.set A312 q312 S312 M312 H312 G312 (by first | rfl | exact fits_nar_char ch253 | (rw [← r312]; exact fits_nar_char ch253)) W312 1 (by decide) (Nat.le_of_ble_eq_true rfl)
        refine go s312 ?_
        show Ends p e below _ T312 (mkF m 82 #[iv n, iv x, iv y, iv w, iv ch252, iv ch253, iv ch254] [(.ref a304), (.ref a300), (.ref a300)])
        have F316 := (Exa.wr W312 (Exa.wr W309 (Exa.ext E304 A300)))
        have F317 := (Fld.other W312 (Fld.other W309 (Fld.ext E304 (D300 (Or.inr (hwi hw 33 rfl)) (ty := (.array .byte)) (by decide))) (Or.inl n305)) (Or.inl n305))
        have F318 := (Fld.other W312 (Fld.other W309 (Fld.ext E304 (D300 (Or.inr (hwi hw 31 rfl)) (ty := .byte) (by decide))) (Or.inl n305)) (Or.inl n305))
        refine cInit X312 hx hZ hown (by rw [hml]; rfl) e312 (hwi hw 8 rfl) (hwi hw 9 rfl) (hwi hw 6 rfl) (hwi hw 10 rfl) a300 [(.ref a304)] [(.ref a300)] rfl (rm_new1_2 hw a300 a304 k304 ch252 ch253 _ O315 f300 n305 F316 F317 F318 cz SCS hcz V312 lc252 lc253) (hb hby d16_82) rfl (lenOf pd_18 rfl) rfl (by decide) (by decide) (Nat.le_of_ble_eq_true rfl) (by decide) (by decide) ?_
        rintro v319 T319 h319 L319 X319 e319 ⟨b319, k319, rfl, N319, K319, g319, Fv319, Fc319, V319⟩
        have N319a := Fr.app N312 N319
        have n320 : a300 ≠ b319 := Nat.ne_of_lt (Nat.lt_of_lt_of_le (F316.lt) g319)
        have n321 : a304 ≠ b319 := Nat.ne_of_lt (Nat.lt_of_lt_of_le (V312.lt) g319)
        have f322 : Z.heap.size ≤ b319 := Nat.le_trans (O315).1 g319
        have K323 : Keep h0 h312 [] := (Keep.wr (Keep.wr (Keep.ext K306 E304) W309 (Or.inr b304)) W312 (Or.inr b304))
        have b322 : h0.size ≤ b319 := Nat.le_trans (K323).1 g319
        have F325 := (Safe.wr W312 F314 H310.1 (Safe.wr W309 SF304 H307.1 (Safe.ext E304 H302.1 SF300)))
        have sf324 : ∀ x ∈ [a300], Safe Z own_EL s.vm h312 x := (sfS F325 sf0)
        have C324 : CHr Z own_EL s.vm h312 s.vm h319 := CHr.keep K319 sf324 H313.1
        have hk := Nat.le_trans hk C324.2.1
        have H324 := H313.trans C324
        have O326 : Ext Z.heap h319 := xk O315 K319 (allS f300 all0)
        show Ends p e below _ T319 (mkF m 85 #[iv n, iv x, iv y, iv w, iv ch252, iv ch253, iv ch254] [(.ref a300)])
        have K327 : Keep h0 h319 [] := (Keep.trans K323 K319 (allS (Or.inr b300) all0))
        have F328 := (Exa.keep F316 K319)
        exact endA X319 hx hret rfl rfl (hb hby d16_85) (lvW X319 hlk hZ (own_EW hw) hs0 hS hk H324 e319 (fun h => by rw [hret] at h; cases h) ⟨a300, rfl, N319a, K327, b300, F328⟩ (by decide) (by decide))
      · refine go (fun _ => XS.icmpYes X0.here hx rfl (pc0 := 62) (pc' := 86) rfl (hb hby d16_62) rfl (XT.ii_ne_t c62_299) (by decide) (by decide)) ?_
        show Ends p e below _ T0 (mkF m 86 #[iv n, iv x, iv y, iv w, iv ch252, iv ch253, iv ch254] [])
        obtain ⟨T329, h329, X329, e329, E329, A329, D329, U329, s329⟩ := newO X0 hx hZ hown (hwi hw 4 rfl) (hwi hw 5 rfl) (hwi hw 6 rfl) e0 (g := (mkF m 86 #[iv n, iv x, iv y, iv w, iv ch252, iv ch253, iv ch254] [])) rfl (hb hby d16_86) (by decide) (by decide)
        obtain ⟨a329, g329⟩ : ∃ z : Addr, z = h0.size := ⟨_, rfl⟩
        have f329 : Z.heap.size ≤ a329 := by rw [g329]; exact (O0).1
        have K330 : Keep h0 h0 [] := (Keep.refl _ _)
        have b329 : h0.size ≤ a329 := by rw [g329]; exact (K330).1
        rw [← g329] at A329 D329 U329 s329
        have C331 : CHr Z own_EL s.vm h0 s.vm h329 := CHr.ext E329 H0.1
        have hk := Nat.le_trans hk C331.2.1
        have H331 := H0.trans C331
        have O332 : Ext Z.heap h329 := xx O0 E329
        have SF329 : Safe Z own_EL s.vm h329 a329 := Safe.ext E329 H0.1 (Safe.new (by rw [g329]; exact Nat.le_refl _))
        refine go s329 ?_
        show Ends p e below _ T329 (mkF m 89 #[iv n, iv x, iv y, iv w, iv ch252, iv ch253, iv ch254] [(.ref a329)])
        refine go (fun _ => XS.dup X329.here hx rfl (hb hby d16_89) rfl rfl) ?_
        refine go (fun _ => XT.iconstV X329.here hx rfl (3 : Int32) (hb hby d16_90) (by decide)) ?_
        show Ends p e below _ T329 (mkF m 91 #[iv n, iv x, iv y, iv w, iv ch252, iv ch253, iv ch254] [(.int (3 : Int32)), (.ref a329), (.ref a329)])
        obtain ⟨T333, h333, k333, X333, e333, E333, A333, s333⟩ := newP X329 hx hZ (hwi hw 7 rfl) e329 (g := (mkF m 91 #[iv n, iv x, iv y, iv w, iv ch252, iv ch253, iv ch254] [(.int (3 : Int32)), (.ref a329), (.ref a329)])) rfl (hb hby d16_91) rfl (by decide) (cap := 3) (by decide) (by decide) (by decide) (by decide)
        obtain ⟨a333, g333⟩ : ∃ z : Addr, z = h329.size := ⟨_, rfl⟩
        have n334 : a329 ≠ a333 := fun q => absurd (A329.lt) (by rw [q, g333]; exact Nat.lt_irrefl _)
        have f333 : Z.heap.size ≤ a333 := by rw [g333]; exact (O332).1
        have K335 : Keep h0 h329 [] := (Keep.ext K330 E329)
        have b333 : h0.size ≤ a333 := by rw [g333]; exact (K335).1
        rw [← g333] at A333 s333
        have C336 : CHr Z own_EL s.vm h329 s.vm h333 := CHr.ext E333 H331.1
        have hk := Nat.le_trans hk C336.2.1
        have H336 := H331.trans C336
        have O337 : Ext Z.heap h333 := xx O332 E333
        have SF333 : Safe Z own_EL s.vm h333 a333 := Safe.ext E333 H331.1 (Safe.new (by rw [g333]; exact Nat.le_refl _))
        have V333 : Arv Z h333 a333 k333 .char (3 : Int32) [(.int (0 : Int32)), (.int (0 : Int32)), (.int (0 : Int32))] (.int 0) := Arv.pad (Arv.new A333 (by decide)) (pad_rep [] _ 3)
        refine go s333 ?_
        show Ends p e below _ T333 (mkF m 93 #[iv n, iv x, iv y, iv w, iv ch252, iv ch253, iv ch254] [(.ref a333), (.ref a329), (.ref a329)])
        refine go (fun _ => XS.dup X333.here hx rfl (hb hby d16_93) rfl rfl) ?_
        refine go (fun _ => XT.iconstV X333.here hx rfl (0 : Int32) (hb hby d16_94) (by decide)) ?_
        refine go (fun _ => XS.iload X333.here hx rfl (hb hby d16_95) rfl) ?_
        show Ends p e below _ T333 (mkF m 97 #[iv n, iv x, iv y, iv w, iv ch252, iv ch253, iv ch254] [(.int ch252), (.int (0 : Int32)), (.ref a333), (.ref a333), (.ref a329), (.ref a329)])
        obtain ⟨cl338, A338, q338, S338, M338, H338, G338⟩ := id V333
        obtain ⟨T338, h338, X338, e338, W338, s338⟩ := stC X333 hx hZ e333 A338 (j := (0 : Int32)) (inb_of S338 (by decide)) (g := (mkF m 97 #[iv n, iv x, iv y, iv w, iv ch252, iv ch253, iv ch254] [(.int ch252), (.int (0 : Int32)), (.ref a333), (.ref a333), (.ref a329), (.ref a329)])) rfl rfl (hb hby d16_97)
        have r338 : nar .char ch252 = ch252 := nc252
        rw [r338] at W338
        have N338 := Fr.snoc X338 (Fr.nil _) f333
        have C339 : CHr Z own_EL s.vm h333 s.vm h338 := CHr.wr W338 SF333 H336.1
        have hk := Nat.le_trans hk C339.2.1
        have H339 := H336.trans C339
        have O340 : Ext Z.heap h338 := xw O337 W338 f333
        have V338 : Arv Z h338 a333 k333 .char (3 : Int32) [(.int ch252), (.int (0 : Int32)), (.int (0 : Int32))] (.int 0) := Arv.set A338 q338 S338 M338 H338 G338 (by first | rfl | exact fits_nar_char ch252 | (rw [← r338]; exact fits_nar_char ch252)) W338 0 (by decide) (Nat.le_of_ble_eq_true rfl)
        refine go s338 ?_
        show Ends p e below _ T338 (mkF m 98 #[iv n, iv x, iv y, iv w, iv ch252, iv ch253, iv ch254] [(.ref a333), (.ref a329), (.ref a329)])
        refine go (fun _ => XS.dup X338.here hx rfl (hb hby d16_98) rfl rfl) ?_
        refine go (fun _ => XT.iconstV X338.here hx rfl (1 : Int32) (hb hby d16_99) (by decide)) ?_
        refine go (fun _ => XS.iload X338.here hx rfl (hb hby d16_100) rfl) ?_
        show Ends p e below _ T338 (mkF m 102 #[iv n, iv x, iv y, iv w, iv ch252, iv ch253, iv ch254] [(.int ch253), (.int (1 : Int32)), (.ref a333), (.ref a333), (.ref a329), (.ref a329)])
        obtain ⟨cl341, A341, q341, S341, M341, H341, G341⟩ := id V338
        obtain ⟨T341, h341, X341, e341, W341, s341⟩ := stC X338 hx hZ e338 A341 (j := (1 : Int32)) (inb_of S341 (by decide)) (g := (mkF m 102 #[iv n, iv x, iv y, iv w, iv ch252, iv ch253, iv ch254] [(.int ch253), (.int (1 : Int32)), (.ref a333), (.ref a333), (.ref a329), (.ref a329)])) rfl rfl (hb hby d16_102)
        have r341 : nar .char ch253 = ch253 := nc253
        rw [r341] at W341
        have N341 := Fr.snoc X341 N338 f333
        have F343 := (Safe.wr W338 SF333 H336.1 SF333)
        have C342 : CHr Z own_EL s.vm h338 s.vm h341 := CHr.wr W341 F343 H339.1
        have hk := Nat.le_trans hk C342.2.1
        have H342 := H339.trans C342
        have O344 : Ext Z.heap h341 := xw O340 W341 f333
        have V341 : Arv Z h341 a333 k333 .char (3 : Int32) [(.int ch252), (.int ch253), (.int (0 : Int32))] (.int 0) := Arv.set A341 q341 S341 M341 H341 G341 (by first | rfl | exact fits_nar_char ch253 | (rw [← r341]; exact fits_nar_char ch253)) W341 1 (by decide) (Nat.le_of_ble_eq_true rfl)
        refine go s341 ?_
        show Ends p e below _ T341 (mkF m 103 #[iv n, iv x, iv y, iv w, iv ch252, iv ch253, iv ch254] [(.ref a333), (.ref a329), (.ref a329)])
        refine go (fun _ => XS.dup X341.here hx rfl (hb hby d16_103) rfl rfl) ?_
        refine go (fun _ => XT.iconstV X341.here hx rfl (2 : Int32) (hb hby d16_104) (by decide)) ?_
        refine go (fun _ => XS.iload X341.here hx rfl (hb hby d16_105) rfl) ?_
        show Ends p e below _ T341 (mkF m 107 #[iv n, iv x, iv y, iv w, iv ch252, iv ch253, iv ch254] [(.int ch254), (.int (2 : Int32)), (.ref a333), (.ref a333), (.ref a329), (.ref a329)])
        obtain ⟨cl345, A345, q345, S345, M345, H345, G345⟩ := id V341
        obtain ⟨T345, h345, X345, e345, W345, s345⟩ := stC X341 hx hZ e341 A345 (j := (2 : Int32)) (inb_of S345 (by decide)) (g := (mkF m 107 #[iv n, iv x, iv y, iv w, iv ch252, iv ch253, iv ch254] [(.int ch254), (.int (2 : Int32)), (.ref a333), (.ref a333), (.ref a329), (.ref a329)])) rfl rfl (hb hby d16_107)
        have r345 : nar .char ch254 = ch254 := nc254
        rw [r345] at W345
        have N345 := Fr.snoc X345 N341 f333
        have F347 := (Safe.wr W341 F343 H339.1 F343)
        have C346 : CHr Z own_EL s.vm h341 s.vm h345 := CHr.wr W345 F347 H342.1
        have hk := Nat.le_trans hk C346.2.1
        have H346 := H342.trans C346
        have O348 : Ext Z.heap h345 := xw O344 W345 f333
        have V345 : Arv Z h345 a333 k333 .char (3 : Int32) [(.int ch252), (.int ch253), (.int ch254)] (.int 0) := Arv.set A345 q345 S345 M345 H345 G345 (by first | rfl | exact fits_nar_char ch254 | (rw [← r345]; exact fits_nar_char ch254)) W345 2 (by decide) (Nat.le_of_ble_eq_true rfl)
        refine go s345 ?_
        show Ends p e below _ T345 (mkF m 108 #[iv n, iv x, iv y, iv w, iv ch252, iv ch253, iv ch254] [(.ref a333), (.ref a329), (.ref a329)])
        have F349 := (Exa.wr W345 (Exa.wr W341 (Exa.wr W338 (Exa.ext E333 A329))))
        have F350 := (Fld.other W345 (Fld.other W341 (Fld.other W338 (Fld.ext E333 (D329 (Or.inr (hwi hw 33 rfl)) (ty := (.array .byte)) (by decide))) (Or.inl n334)) (Or.inl n334)) (Or.inl n334))
        have F351 := (Fld.other W345 (Fld.other W341 (Fld.other W338 (Fld.ext E333 (D329 (Or.inr (hwi hw 31 rfl)) (ty := .byte) (by decide))) (Or.inl n334)) (Or.inl n334)) (Or.inl n334))
        refine cInit X345 hx hZ hown (by rw [hml]; rfl) e345 (hwi hw 8 rfl) (hwi hw 9 rfl) (hwi hw 6 rfl) (hwi hw 10 rfl) a329 [(.ref a333)] [(.ref a329)] rfl (rm_new1_3 hw a329 a333 k333 ch252 ch253 ch254 _ O348 f329 n334 F349 F350 F351 cz SCS hcz V345 lc252 lc253 lc254) (hb hby d16_108) rfl (lenOf pd_18 rfl) rfl (by decide) (by decide) (Nat.le_of_ble_eq_true rfl) (by decide) (by decide) ?_
        rintro v352 T352 h352 L352 X352 e352 ⟨b352, k352, rfl, N352, K352, g352, Fv352, Fc352, V352⟩
        have N352a := Fr.app N345 N352
        have n353 : a329 ≠ b352 := Nat.ne_of_lt (Nat.lt_of_lt_of_le (F349.lt) g352)
        have n354 : a333 ≠ b352 := Nat.ne_of_lt (Nat.lt_of_lt_of_le (V345.lt) g352)
        have f355 : Z.heap.size ≤ b352 := Nat.le_trans (O348).1 g352
        have K356 : Keep h0 h345 [] := (Keep.wr (Keep.wr (Keep.wr (Keep.ext K335 E333) W338 (Or.inr b333)) W341 (Or.inr b333)) W345 (Or.inr b333))
        have b355 : h0.size ≤ b352 := Nat.le_trans (K356).1 g352
        have F358 := (Safe.wr W345 F347 H342.1 (Safe.wr W341 F343 H339.1 (Safe.wr W338 SF333 H336.1 (Safe.ext E333 H331.1 SF329))))
        have sf357 : ∀ x ∈ [a329], Safe Z own_EL s.vm h345 x := (sfS F358 sf0)
        have C357 : CHr Z own_EL s.vm h345 s.vm h352 := CHr.keep K352 sf357 H346.1
        have hk := Nat.le_trans hk C357.2.1
        have H357 := H346.trans C357
        have O359 : Ext Z.heap h352 := xk O348 K352 (allS f329 all0)
        show Ends p e below _ T352 (mkF m 111 #[iv n, iv x, iv y, iv w, iv ch252, iv ch253, iv ch254] [(.ref a329)])
        have K360 : Keep h0 h352 [] := (Keep.trans K356 K352 (allS (Or.inr b329) all0))
        have F361 := (Exa.keep F349 K352)
        exact endA X352 hx hret rfl rfl (hb hby d16_111) (lvW X352 hlk hZ (own_EW hw) hs0 hS hk H357 e352 (fun h => by rw [hret] at h; cases h) ⟨a329, rfl, N352a, K360, b329, F361⟩ (by decide) (by decide))
set_option maxRecDepth 65536 in
set_option maxHeartbeats 40000000 in
theorem rm_law {l : Launch} {Z : State} {a0 : Array Value} (hw : ∀ d ∈ tables_1, d.before a0 Z = true) (i0 i1 i2 i3 i4 : Int32) (aB : Addr) (cB : Cell) (h0 : Heap) (O0 : Ext Z.heap h0) (cz : Int32) (SCS : Sta Z Z.heap "java/lang/String" "COMPACT_STRINGS" "Z" (.int cz)) (hcz : ¬ cz = (0 : Int32)) (SH : Sta Z Z.heap "java/lang/Integer$IntegerCache" "high" "I" (.int 127)) (SB : Sta Z Z.heap "java/lang/Integer$IntegerCache" "cache" "[Ljava/lang/Integer;" (.ref aB)) (BX : Bxs Z aB cB "java/lang/Integer" "I" (256 : Int32) (fun j => .int (j - 128))) :
    ConW l x code maxLocals ret room_1 Z own_EL #[(.int i0), (.int i1), (.int i2), (.int i3), (.int i4)] h0 (fun v h L => v = some (.int 1) ∧ Fr Z.heap.size L) := by
  refine ConW.of (plainFor_of_name pn_17) (Ls := #[iv i0, iv i1, iv i2, iv i3, iv i4, .unset, .unset, .unset, .unset, .unset, .unset, .unset, .unset]) (fun m => efOf rfl) ?_
  intro p e s m below meth c T0 X0 hx hZ hby hml hown hnm hret hlk e0 hs0 hS hk H0
  have hml : c.maxLocals = 13 := hml
  refine go (fun _ => XS.iloadN X0.here hx rfl (hb hby at_0) rfl) ?_
  refine go (fun _ => XT.iconstV X0.here hx rfl (3 : Int32) (hb hby at_1) (by decide)) ?_
  refine go (fun _ => XS.iand X0.here hx rfl (hb hby at_2) rfl) ?_
  refine go (fun _ => XS.iloadN X0.here hx rfl (hb hby at_3) rfl) ?_
  refine go (fun _ => XS.iloadN X0.here hx rfl (hb hby at_4) rfl) ?_
  refine go (fun _ => XS.iloadN X0.here hx rfl (hb hby at_5) rfl) ?_
  show Ends p e below _ T0 (mkF m 6 #[iv i0, iv i1, iv i2, iv i3, iv i4, .unset, .unset, .unset, .unset, .unset, .unset, .unset, .unset] [(.int i2), (.int i1), (.int i0), (.int (i3 &&& (3 : Int32)))])
  refine cStatW X0 hx hZ hown (by rw [hml]; rfl) e0 (own_EW hw) hS hk H0.1 (hwi hw 0 rfl) (hwi hw 1 rfl) (hwi hw 2 rfl) (hwi hw 3 rfl) [(.int (i3 &&& (3 : Int32))), (.int i0), (.int i1), (.int i2)] [] rfl (rm_drawn hw (i3 &&& (3 : Int32)) i0 i1 i2 _ O0 cz SCS hcz) (hb hby at_6) rfl (lenOf pd_19 rfl) (by decide) (by decide) (Nat.le_of_ble_eq_true rfl) (by decide) (by decide) ?_
  rintro v362 T362 h362 L362 k362w X362 e362 hS hk hZ hown C362w ⟨a362, rfl, N362, K362, g362, E362⟩
  have N362a := Fr.app (Fr.nil _) N362
  have f363 : Z.heap.size ≤ a362 := Nat.le_trans (O0).1 g362
  have H364 := H0.trans C362w
  have O365 : Ext Z.heap h362 := xk O0 K362 all0
  show Ends p e below _ T362 (mkF m 9 #[iv i0, iv i1, iv i2, iv i3, iv i4, .unset, .unset, .unset, .unset, .unset, .unset, .unset, .unset] [(.ref a362)])
  refine go (fun _ => XS.astore X362.here hx rfl (hb hby at_9) rfl rfl (l' := #[iv i0, iv i1, iv i2, iv i3, iv i4, rv a362, .unset, .unset, .unset, .unset, .unset, .unset, .unset]) rfl) ?_
  refine go (fun _ => XS.iloadN X362.here hx rfl (hb hby at_11) rfl) ?_
  refine go (fun _ => XT.iconstV X362.here hx rfl (2 : Int32) (hb hby at_12) (by decide)) ?_
  refine go (fun _ => XT.iushr X362.here hx rfl (hb hby at_13) rfl) ?_
  refine go (fun _ => XT.iconstV X362.here hx rfl (3 : Int32) (hb hby at_14) (by decide)) ?_
  refine go (fun _ => XS.iand X362.here hx rfl (hb hby at_15) rfl) ?_
  show Ends p e below _ T362 (mkF m 16 #[iv i0, iv i1, iv i2, iv i3, iv i4, rv a362, .unset, .unset, .unset, .unset, .unset, .unset, .unset] [(.int ((XT.ushr i3 (2 : Int32)) &&& (3 : Int32)))])
  refine go (fun _ => XS.iloadN X362.here hx rfl (hb hby at_16) rfl) ?_
  refine go (fun _ => XS.iloadN X362.here hx rfl (hb hby at_17) rfl) ?_
  refine go (fun _ => XS.iloadN X362.here hx rfl (hb hby at_18) rfl) ?_
  show Ends p e below _ T362 (mkF m 19 #[iv i0, iv i1, iv i2, iv i3, iv i4, rv a362, .unset, .unset, .unset, .unset, .unset, .unset, .unset] [(.int i0), (.int i2), (.int i1), (.int ((XT.ushr i3 (2 : Int32)) &&& (3 : Int32)))])
  refine cStatW X362 hx hZ hown (by rw [hml]; rfl) e362 (own_EW hw) hS hk H364.1 (hwi hw 0 rfl) (hwi hw 1 rfl) (hwi hw 2 rfl) (hwi hw 3 rfl) [(.int ((XT.ushr i3 (2 : Int32)) &&& (3 : Int32))), (.int i1), (.int i2), (.int i0)] [] rfl (rm_drawn hw ((XT.ushr i3 (2 : Int32)) &&& (3 : Int32)) i1 i2 i0 _ O365 cz SCS hcz) (hb hby at_19) rfl (lenOf pd_19 rfl) (by decide) (by decide) (Nat.le_of_ble_eq_true rfl) (by decide) (by decide) ?_
  rintro v366 T366 h366 L366 k366w X366 e366 hS hk hZ hown C366w ⟨a366, rfl, N366, K366, g366, E366⟩
  have N366a := Fr.app N362a N366
  have n367 : a362 ≠ a366 := Nat.ne_of_lt (Nat.lt_of_lt_of_le (E362.lt) g366)
  have f368 : Z.heap.size ≤ a366 := Nat.le_trans (O365).1 g366
  have H369 := H364.trans C366w
  have O370 : Ext Z.heap h366 := xk O365 K366 all0
  show Ends p e below _ T366 (mkF m 22 #[iv i0, iv i1, iv i2, iv i3, iv i4, rv a362, .unset, .unset, .unset, .unset, .unset, .unset, .unset] [(.ref a366)])
  refine go (fun _ => XS.astore X366.here hx rfl (hb hby at_22) rfl rfl (l' := #[iv i0, iv i1, iv i2, iv i3, iv i4, rv a362, rv a366, .unset, .unset, .unset, .unset, .unset, .unset]) rfl) ?_
  refine go (fun _ => XS.iloadN X366.here hx rfl (hb hby at_24) rfl) ?_
  refine go (fun _ => XT.iconstV X366.here hx rfl (4 : Int32) (hb hby at_25) (by decide)) ?_
  refine go (fun _ => XT.iushr X366.here hx rfl (hb hby at_26) rfl) ?_
  refine go (fun _ => XT.iconstV X366.here hx rfl (3 : Int32) (hb hby at_27) (by decide)) ?_
  refine go (fun _ => XS.iand X366.here hx rfl (hb hby at_28) rfl) ?_
  show Ends p e below _ T366 (mkF m 29 #[iv i0, iv i1, iv i2, iv i3, iv i4, rv a362, rv a366, .unset, .unset, .unset, .unset, .unset, .unset] [(.int ((XT.ushr i3 (4 : Int32)) &&& (3 : Int32)))])
  obtain ⟨kk, hkk⟩ : ∃ z : Int32, z = ((XT.ushr i3 (4 : Int32)) &&& (3 : Int32)) := ⟨_, rfl⟩
  rw [← hkk]
  show Ends p e below _ T366 (mkF m 29 #[iv i0, iv i1, iv i2, iv i3, iv i4, rv a362, rv a366, .unset, .unset, .unset, .unset, .unset, .unset] [(.int kk)])
  refine go (fun _ => XS.istore X366.here hx rfl (hb hby at_29) rfl (l' := #[iv i0, iv i1, iv i2, iv i3, iv i4, rv a362, rv a366, iv kk, .unset, .unset, .unset, .unset, .unset]) rfl) ?_
  refine go (fun _ => XS.iload X366.here hx rfl (hb hby at_31) rfl) ?_
  show Ends p e below _ T366 (mkF m 33 #[iv i0, iv i1, iv i2, iv i3, iv i4, rv a362, rv a366, iv kk, .unset, .unset, .unset, .unset, .unset] [(.int kk)])
  by_cases c33_371 : kk = (0 : Int32)
  · refine go (fun _ => XS.ifNo X366.here hx rfl (hb hby at_33) rfl (XT.i0_ne_f c33_371)) ?_
    show Ends p e below _ T366 (mkF m 36 #[iv i0, iv i1, iv i2, iv i3, iv i4, rv a362, rv a366, iv kk, .unset, .unset, .unset, .unset, .unset] [])
    refine go (fun _ => XS.aconstNull X366.here hx rfl (hb hby at_36)) ?_
    refine go (fun _ => XS.astore X366.here hx rfl (hb hby at_37) rfl rfl (l' := #[iv i0, iv i1, iv i2, iv i3, iv i4, rv a362, rv a366, iv kk, .val .null, .unset, .unset, .unset, .unset]) rfl) ?_
    refine go (fun _ => XS.goto X366.here hx rfl (pc0 := 39) (pc' := 95) rfl (hb hby at_39) (by decide) (by decide)) ?_
    show Ends p e below _ T366 (mkF m 95 #[iv i0, iv i1, iv i2, iv i3, iv i4, rv a362, rv a366, iv kk, .val .null, .unset, .unset, .unset, .unset] [])
    obtain ⟨T372, h372, X372, e372, E372, A372, D372, U372, s372⟩ := newO X366 hx hZ hown (hwi hw 37 rfl) (hwi hw 38 rfl) (hwi hw 39 rfl) e366 (g := (mkF m 95 #[iv i0, iv i1, iv i2, iv i3, iv i4, rv a362, rv a366, iv kk, .val .null, .unset, .unset, .unset, .unset] [])) rfl (hb hby at_95) (by decide) (by decide)
    have F373 := (Exa.keep E362 K366)
    obtain ⟨a372, g372⟩ : ∃ z : Addr, z = h366.size := ⟨_, rfl⟩
    have n374 : a362 ≠ a372 := fun q => absurd (F373.lt) (by rw [q, g372]; exact Nat.lt_irrefl _)
    have n375 : a366 ≠ a372 := fun q => absurd (E366.lt) (by rw [q, g372]; exact Nat.lt_irrefl _)
    have f372 : Z.heap.size ≤ a372 := by rw [g372]; exact (O370).1
    rw [← g372] at A372 D372 U372 s372
    have C376 : CHr Z own_EL T366.vm h366 T366.vm h372 := CHr.ext E372 H369.1
    have hk := Nat.le_trans hk C376.2.1
    have H376 := H369.trans C376
    have O377 : Ext Z.heap h372 := xx O370 E372
    have SF372 : Safe Z own_EL T366.vm h372 a372 := Safe.ext E372 H369.1 (Safe.new (by rw [g372]; exact Nat.le_refl _))
    refine go s372 ?_
    show Ends p e below _ T372 (mkF m 98 #[iv i0, iv i1, iv i2, iv i3, iv i4, rv a362, rv a366, iv kk, .val .null, .unset, .unset, .unset, .unset] [(.ref a372)])
    refine go (fun _ => XS.dup X372.here hx rfl (hb hby at_98) rfl rfl) ?_
    refine go (fun _ => XS.aload X372.here hx rfl (hb hby at_99) rfl rfl) ?_
    refine go (fun _ => XS.aload X372.here hx rfl (hb hby at_101) rfl rfl) ?_
    show Ends p e below _ T372 (mkF m 103 #[iv i0, iv i1, iv i2, iv i3, iv i4, rv a362, rv a366, iv kk, .val .null, .unset, .unset, .unset, .unset] [.null, (.ref a362), (.ref a372), (.ref a372)])
    have F378 := (D372 (Or.inr (hwi hw 50 rfl)) (ty := (.object "java/lang/String")) (by decide))
    have F379 := (D372 (Or.inr (hwi hw 52 rfl)) (ty := (.object "java/lang/Object")) (by decide))
    have F380 := (Exa.ext E372 F373)
    refine cInit X372 hx hZ hown (by rw [hml]; rfl) e372 (hwi hw 40 rfl) (hwi hw 41 rfl) (hwi hw 39 rfl) (hwi hw 42 rfl) a372 [(.ref a362), .null] [(.ref a372)] rfl (rm_mv hw a372 a362 .null _ O377 f372 A372 F378 F379 rfl F380) (hb hby at_103) rfl (lenOf pd_20 rfl) rfl (by decide) (by decide) (Nat.le_of_ble_eq_true rfl) (by decide) (by decide) ?_
    rintro v381 T381 h381 L381 X381 e381 ⟨rfl, N381, K381, F381_0, F381_1⟩
    have N381a := Fr.app N366a N381
    have sf382 : ∀ x ∈ [a372], Safe Z own_EL T366.vm h372 x := (sfS SF372 sf0)
    have C382 : CHr Z own_EL T366.vm h372 T366.vm h381 := CHr.keep K381 sf382 H376.1
    have hk := Nat.le_trans hk C382.2.1
    have H382 := H376.trans C382
    have O383 : Ext Z.heap h381 := xk O377 K381 (allS f372 all0)
    show Ends p e below _ T381 (mkF m 106 #[iv i0, iv i1, iv i2, iv i3, iv i4, rv a362, rv a366, iv kk, .val .null, .unset, .unset, .unset, .unset] [(.ref a372)])
    refine go (fun _ => XS.astore X381.here hx rfl (hb hby at_106) rfl rfl (l' := #[iv i0, iv i1, iv i2, iv i3, iv i4, rv a362, rv a366, iv kk, .val .null, rv a372, .unset, .unset, .unset]) rfl) ?_
    refine go (fun _ => XS.aload X381.here hx rfl (hb hby at_108) rfl rfl) ?_
    show Ends p e below _ T381 (mkF m 110 #[iv i0, iv i1, iv i2, iv i3, iv i4, rv a362, rv a366, iv kk, .val .null, rv a372, .unset, .unset, .unset] [(.ref a372)])
    have F384 := (Exa.keep A372 K381)
    refine cStat X381 hx hZ hown (by rw [hml]; rfl) e381 (hwi hw 53 rfl) (hwi hw 54 rfl) (hwi hw 39 rfl) (hwi hw 55 rfl) [(.ref a372)] [] rfl (rm_moM hw a372 a362 _ F384 F381_0) (hb hby at_110) rfl (lenOf pd_21 rfl) (by decide) (by decide) (Nat.le_of_ble_eq_true rfl) (by decide) (by decide) ?_
    rintro v385 T385 h385 L385 X385 e385 ⟨rfl, N385, rfl⟩
    have N385a := Fr.app N381a N385
    show Ends p e below _ T385 (mkF m 113 #[iv i0, iv i1, iv i2, iv i3, iv i4, rv a362, rv a366, iv kk, .val .null, rv a372, .unset, .unset, .unset] [(.ref a362)])
    refine go (fun _ => XS.astore X385.here hx rfl (hb hby at_113) rfl rfl (l' := #[iv i0, iv i1, iv i2, iv i3, iv i4, rv a362, rv a366, iv kk, .val .null, rv a372, rv a362, .unset, .unset]) rfl) ?_
    refine go (fun _ => XS.aload X385.here hx rfl (hb hby at_115) rfl rfl) ?_
    show Ends p e below _ T385 (mkF m 117 #[iv i0, iv i1, iv i2, iv i3, iv i4, rv a362, rv a366, iv kk, .val .null, rv a372, rv a362, .unset, .unset] [(.ref a362)])
    refine go (fun _ => XS.ifnullNo X385.here hx rfl (hb hby at_117) rfl) ?_
    show Ends p e below _ T385 (mkF m 120 #[iv i0, iv i1, iv i2, iv i3, iv i4, rv a362, rv a366, iv kk, .val .null, rv a372, rv a362, .unset, .unset] [])
    refine go (fun _ => XS.aload X385.here hx rfl (hb hby at_120) rfl rfl) ?_
    refine go (fun _ => XS.aload X385.here hx rfl (hb hby at_122) rfl rfl) ?_
    show Ends p e below _ T385 (mkF m 124 #[iv i0, iv i1, iv i2, iv i3, iv i4, rv a362, rv a366, iv kk, .val .null, rv a372, rv a362, .unset, .unset] [(.ref a362), (.ref a362)])
    have F387 := (Exa.keep F380 K381)
    refine cVirt X385 hx hZ hown (by rw [hml]; rfl) e385 (hwi hw 58 rfl) (hwi hw 59 rfl) (hwi hw 61 rfl) (hwi hw 60 rfl) (hwi hw 6 rfl) (hwi hw 62 rfl) (notFace_of_selects (args := #[]) (mvT hZ (hwi hw 61 rfl))) a362 F387 [(.ref a362)] [] rfl (rm_eqself hw a362 _) (hb hby at_124) rfl (lenOf pd_22 rfl) (by decide) (by decide) (Nat.le_of_ble_eq_true rfl) (by decide) (by decide) ?_
    rintro v386 T386 h386 L386 X386 e386 ⟨rfl, N386, rfl⟩
    have N386a := Fr.app N385a N386
    show Ends p e below _ T386 (mkF m 127 #[iv i0, iv i1, iv i2, iv i3, iv i4, rv a362, rv a366, iv kk, .val .null, rv a372, rv a362, .unset, .unset] [(.int (1 : Int32))])
    refine go (fun _ => XS.ifYes X386.here hx rfl (pc0 := 127) (pc' := 132) rfl (hb hby at_127) rfl (XT.i0_ne_t ((by decide) : ¬ ((1 : Int32) = (0 : Int32)))) (by decide) (by decide)) ?_
    show Ends p e below _ T386 (mkF m 132 #[iv i0, iv i1, iv i2, iv i3, iv i4, rv a362, rv a366, iv kk, .val .null, rv a372, rv a362, .unset, .unset] [])
    refine go (fun _ => XS.aload X386.here hx rfl (hb hby at_132) rfl rfl) ?_
    show Ends p e below _ T386 (mkF m 134 #[iv i0, iv i1, iv i2, iv i3, iv i4, rv a362, rv a366, iv kk, .val .null, rv a372, rv a362, .unset, .unset] [.null])
    refine cStat X386 hx hZ hown (by rw [hml]; rfl) e386 (hwi hw 53 rfl) (hwi hw 54 rfl) (hwi hw 39 rfl) (hwi hw 55 rfl) [.null] [] rfl (rm_moN hw _) (hb hby at_134) rfl (lenOf pd_21 rfl) (by decide) (by decide) (Nat.le_of_ble_eq_true rfl) (by decide) (by decide) ?_
    rintro v388 T388 h388 L388 X388 e388 ⟨rfl, N388, rfl⟩
    have N388a := Fr.app N386a N388
    show Ends p e below _ T388 (mkF m 137 #[iv i0, iv i1, iv i2, iv i3, iv i4, rv a362, rv a366, iv kk, .val .null, rv a372, rv a362, .unset, .unset] [.null])
    refine go (fun _ => XS.astore X388.here hx rfl (hb hby at_137) rfl rfl (l' := #[iv i0, iv i1, iv i2, iv i3, iv i4, rv a362, rv a366, iv kk, .val .null, rv a372, rv a362, .val .null, .unset]) rfl) ?_
    refine go (fun _ => XS.iload X388.here hx rfl (hb hby at_139) rfl) ?_
    refine go (fun _ => XT.iconstV X388.here hx rfl (3 : Int32) (hb hby at_141) (by decide)) ?_
    show Ends p e below _ T388 (mkF m 142 #[iv i0, iv i1, iv i2, iv i3, iv i4, rv a362, rv a366, iv kk, .val .null, rv a372, rv a362, .val .null, .unset] [(.int (3 : Int32)), (.int kk)])
    refine go (fun _ => XS.icmpYes X388.here hx rfl (pc0 := 142) (pc' := 170) rfl (hb hby at_142) rfl (XT.ii_ne_t ((by rw [c33_371]; decide) : ¬ (kk = (3 : Int32)))) (by decide) (by decide)) ?_
    show Ends p e below _ T388 (mkF m 170 #[iv i0, iv i1, iv i2, iv i3, iv i4, rv a362, rv a366, iv kk, .val .null, rv a372, rv a362, .val .null, .unset] [])
    refine go (fun _ => XS.aload X388.here hx rfl (hb hby at_170) rfl rfl) ?_
    show Ends p e below _ T388 (mkF m 172 #[iv i0, iv i1, iv i2, iv i3, iv i4, rv a362, rv a366, iv kk, .val .null, rv a372, rv a362, .val .null, .unset] [.null])
    refine go (fun _ => XT.ifnonnullNo X388.here hx rfl (hb hby at_172) rfl) ?_
    show Ends p e below _ T388 (mkF m 175 #[iv i0, iv i1, iv i2, iv i3, iv i4, rv a362, rv a366, iv kk, .val .null, rv a372, rv a362, .val .null, .unset] [])
    refine go (fun _ => XT.iconstV X388.here hx rfl (1 : Int32) (hb hby at_175) (by decide)) ?_
    refine go (fun _ => XS.goto X388.here hx rfl (pc0 := 176) (pc' := 180) rfl (hb hby at_176) (by decide) (by decide)) ?_
    refine go (fun _ => XS.istore X388.here hx rfl (hb hby at_180) rfl (l' := #[iv i0, iv i1, iv i2, iv i3, iv i4, rv a362, rv a366, iv kk, .val .null, rv a372, rv a362, .val .null, iv (1 : Int32)]) rfl) ?_
    refine go (fun _ => XS.iload X388.here hx rfl (hb hby at_182) rfl) ?_
    show Ends p e below _ T388 (mkF m 184 #[iv i0, iv i1, iv i2, iv i3, iv i4, rv a362, rv a366, iv kk, .val .null, rv a372, rv a362, .val .null, iv (1 : Int32)] [(.int (1 : Int32))])
    refine go (fun _ => XS.ifNo X388.here hx rfl (hb hby at_184) rfl (XT.i0_eq_f ((by decide) : ¬ ((1 : Int32) = (0 : Int32))))) ?_
    show Ends p e below _ T388 (mkF m 187 #[iv i0, iv i1, iv i2, iv i3, iv i4, rv a362, rv a366, iv kk, .val .null, rv a372, rv a362, .val .null, iv (1 : Int32)] [])
    refine go (fun _ => XS.aconstNull X388.here hx rfl (hb hby at_187)) ?_
    show Ends p e below _ T388 (mkF m 188 #[iv i0, iv i1, iv i2, iv i3, iv i4, rv a362, rv a366, iv kk, .val .null, rv a372, rv a362, .val .null, iv (1 : Int32)] [.null])
    refine cStat X388 hx hZ hown (by rw [hml]; rfl) e388 (hwi hw 53 rfl) (hwi hw 54 rfl) (hwi hw 39 rfl) (hwi hw 55 rfl) [.null] [] rfl (rm_moN hw _) (hb hby at_188) rfl (lenOf pd_21 rfl) (by decide) (by decide) (Nat.le_of_ble_eq_true rfl) (by decide) (by decide) ?_
    rintro v389 T389 h389 L389 X389 e389 ⟨rfl, N389, rfl⟩
    have N389a := Fr.app N388a N389
    show Ends p e below _ T389 (mkF m 191 #[iv i0, iv i1, iv i2, iv i3, iv i4, rv a362, rv a366, iv kk, .val .null, rv a372, rv a362, .val .null, iv (1 : Int32)] [.null])
    refine go (fun _ => XT.ifnonnullNo X389.here hx rfl (hb hby at_191) rfl) ?_
    show Ends p e below _ T389 (mkF m 194 #[iv i0, iv i1, iv i2, iv i3, iv i4, rv a362, rv a366, iv kk, .val .null, rv a372, rv a362, .val .null, iv (1 : Int32)] [])
    refine go (fun _ => XT.iconstV X389.here hx rfl (1 : Int32) (hb hby at_194) (by decide)) ?_
    refine go (fun _ => XS.goto X389.here hx rfl (pc0 := 195) (pc' := 199) rfl (hb hby at_195) (by decide) (by decide)) ?_
    show Ends p e below _ T389 (mkF m 199 #[iv i0, iv i1, iv i2, iv i3, iv i4, rv a362, rv a366, iv kk, .val .null, rv a372, rv a362, .val .null, iv (1 : Int32)] [(.int (1 : Int32))])
    exact endN X389 hx hret (by simp) (hb hby at_199) (lvW X389 hlk hZ (own_EW hw) hs0 hS hk H382 e389 (fun h => by rw [hret] at h; cases h) ⟨rfl, N389a⟩ (by decide) (by decide))
  · refine go (fun _ => XS.ifYes X366.here hx rfl (pc0 := 33) (pc' := 42) rfl (hb hby at_33) rfl (XT.i0_ne_t c33_371) (by decide) (by decide)) ?_
    show Ends p e below _ T366 (mkF m 42 #[iv i0, iv i1, iv i2, iv i3, iv i4, rv a362, rv a366, iv kk, .unset, .unset, .unset, .unset, .unset] [])
    refine go (fun _ => XS.iload X366.here hx rfl (hb hby at_42) rfl) ?_
    refine go (fun _ => XT.iconstV X366.here hx rfl (1 : Int32) (hb hby at_44) (by decide)) ?_
    show Ends p e below _ T366 (mkF m 45 #[iv i0, iv i1, iv i2, iv i3, iv i4, rv a362, rv a366, iv kk, .unset, .unset, .unset, .unset, .unset] [(.int (1 : Int32)), (.int kk)])
    by_cases c45_390 : kk = (1 : Int32)
    · refine go (fun _ => XS.icmpNo X366.here hx rfl (hb hby at_45) rfl (XT.ii_ne_f c45_390)) ?_
      show Ends p e below _ T366 (mkF m 48 #[iv i0, iv i1, iv i2, iv i3, iv i4, rv a362, rv a366, iv kk, .unset, .unset, .unset, .unset, .unset] [])
      refine go (fun _ => XS.iload X366.here hx rfl (hb hby at_48) rfl) ?_
      show Ends p e below _ T366 (mkF m 50 #[iv i0, iv i1, iv i2, iv i3, iv i4, rv a362, rv a366, iv kk, .unset, .unset, .unset, .unset, .unset] [(.int i4)])
      refine cStat X366 hx hZ hown (by rw [hml]; rfl) e366 (hwi hw 63 rfl) (hwi hw 64 rfl) (hwi hw 65 rfl) (hwi hw 66 rfl) [(.int i4)] [] rfl (rm_ivalueOf hw i4 aB cB _ O370 SH SB BX) (hb hby at_50) rfl (lenOf pd_23 rfl) (by decide) (by decide) (Nat.le_of_ble_eq_true rfl) (by decide) (by decide) ?_
      rintro v391 T391 h391 L391 X391 e391 ⟨b391, rfl, N391, K391, E391, F391_0⟩
      have N391a := Fr.app N366a N391
      have C392 : CHr Z own_EL T366.vm h366 T366.vm h391 := CHr.keep K391 sf0 H369.1
      have hk := Nat.le_trans hk C392.2.1
      have H392 := H369.trans C392
      have O393 : Ext Z.heap h391 := xk O370 K391 all0
      show Ends p e below _ T391 (mkF m 53 #[iv i0, iv i1, iv i2, iv i3, iv i4, rv a362, rv a366, iv kk, .unset, .unset, .unset, .unset, .unset] [(.ref b391)])
      refine go (fun _ => XS.astore X391.here hx rfl (hb hby at_53) rfl rfl (l' := #[iv i0, iv i1, iv i2, iv i3, iv i4, rv a362, rv a366, iv kk, rv b391, .unset, .unset, .unset, .unset]) rfl) ?_
      refine go (fun _ => XS.goto X391.here hx rfl (pc0 := 55) (pc' := 95) rfl (hb hby at_55) (by decide) (by decide)) ?_
      show Ends p e below _ T391 (mkF m 95 #[iv i0, iv i1, iv i2, iv i3, iv i4, rv a362, rv a366, iv kk, rv b391, .unset, .unset, .unset, .unset] [])
      obtain ⟨T394, h394, X394, e394, E394, A394, D394, U394, s394⟩ := newO X391 hx hZ hown (hwi hw 37 rfl) (hwi hw 38 rfl) (hwi hw 39 rfl) e391 (g := (mkF m 95 #[iv i0, iv i1, iv i2, iv i3, iv i4, rv a362, rv a366, iv kk, rv b391, .unset, .unset, .unset, .unset] [])) rfl (hb hby at_95) (by decide) (by decide)
      have F395 := (Exa.keep (Exa.keep E362 K366) K391)
      have F396 := (Exa.keep E366 K391)
      obtain ⟨a394, g394⟩ : ∃ z : Addr, z = h391.size := ⟨_, rfl⟩
      have n397 : a362 ≠ a394 := fun q => absurd (F395.lt) (by rw [q, g394]; exact Nat.lt_irrefl _)
      have n398 : a366 ≠ a394 := fun q => absurd (F396.lt) (by rw [q, g394]; exact Nat.lt_irrefl _)
      have n399 : b391 ≠ a394 := fun q => absurd (E391.lt) (by rw [q, g394]; exact Nat.lt_irrefl _)
      have f394 : Z.heap.size ≤ a394 := by rw [g394]; exact (O393).1
      rw [← g394] at A394 D394 U394 s394
      have C400 : CHr Z own_EL T366.vm h391 T366.vm h394 := CHr.ext E394 H392.1
      have hk := Nat.le_trans hk C400.2.1
      have H400 := H392.trans C400
      have O401 : Ext Z.heap h394 := xx O393 E394
      have SF394 : Safe Z own_EL T366.vm h394 a394 := Safe.ext E394 H392.1 (Safe.new (by rw [g394]; exact Nat.le_refl _))
      refine go s394 ?_
      show Ends p e below _ T394 (mkF m 98 #[iv i0, iv i1, iv i2, iv i3, iv i4, rv a362, rv a366, iv kk, rv b391, .unset, .unset, .unset, .unset] [(.ref a394)])
      refine go (fun _ => XS.dup X394.here hx rfl (hb hby at_98) rfl rfl) ?_
      refine go (fun _ => XS.aload X394.here hx rfl (hb hby at_99) rfl rfl) ?_
      refine go (fun _ => XS.aload X394.here hx rfl (hb hby at_101) rfl rfl) ?_
      show Ends p e below _ T394 (mkF m 103 #[iv i0, iv i1, iv i2, iv i3, iv i4, rv a362, rv a366, iv kk, rv b391, .unset, .unset, .unset, .unset] [(.ref b391), (.ref a362), (.ref a394), (.ref a394)])
      have F402 := (D394 (Or.inr (hwi hw 50 rfl)) (ty := (.object "java/lang/String")) (by decide))
      have F403 := (D394 (Or.inr (hwi hw 52 rfl)) (ty := (.object "java/lang/Object")) (by decide))
      have F404 := (Exa.ext E394 F395)
      refine cInit X394 hx hZ hown (by rw [hml]; rfl) e394 (hwi hw 40 rfl) (hwi hw 41 rfl) (hwi hw 39 rfl) (hwi hw 42 rfl) a394 [(.ref a362), (.ref b391)] [(.ref a394)] rfl (rm_mv hw a394 a362 (.ref b391) _ O401 f394 A394 F402 F403 rfl F404) (hb hby at_103) rfl (lenOf pd_20 rfl) rfl (by decide) (by decide) (Nat.le_of_ble_eq_true rfl) (by decide) (by decide) ?_
      rintro v405 T405 h405 L405 X405 e405 ⟨rfl, N405, K405, F405_0, F405_1⟩
      have N405a := Fr.app N391a N405
      have sf406 : ∀ x ∈ [a394], Safe Z own_EL T366.vm h394 x := (sfS SF394 sf0)
      have C406 : CHr Z own_EL T366.vm h394 T366.vm h405 := CHr.keep K405 sf406 H400.1
      have hk := Nat.le_trans hk C406.2.1
      have H406 := H400.trans C406
      have O407 : Ext Z.heap h405 := xk O401 K405 (allS f394 all0)
      show Ends p e below _ T405 (mkF m 106 #[iv i0, iv i1, iv i2, iv i3, iv i4, rv a362, rv a366, iv kk, rv b391, .unset, .unset, .unset, .unset] [(.ref a394)])
      refine go (fun _ => XS.astore X405.here hx rfl (hb hby at_106) rfl rfl (l' := #[iv i0, iv i1, iv i2, iv i3, iv i4, rv a362, rv a366, iv kk, rv b391, rv a394, .unset, .unset, .unset]) rfl) ?_
      refine go (fun _ => XS.aload X405.here hx rfl (hb hby at_108) rfl rfl) ?_
      show Ends p e below _ T405 (mkF m 110 #[iv i0, iv i1, iv i2, iv i3, iv i4, rv a362, rv a366, iv kk, rv b391, rv a394, .unset, .unset, .unset] [(.ref a394)])
      have F408 := (Exa.keep A394 K405)
      refine cStat X405 hx hZ hown (by rw [hml]; rfl) e405 (hwi hw 53 rfl) (hwi hw 54 rfl) (hwi hw 39 rfl) (hwi hw 55 rfl) [(.ref a394)] [] rfl (rm_moM hw a394 a362 _ F408 F405_0) (hb hby at_110) rfl (lenOf pd_21 rfl) (by decide) (by decide) (Nat.le_of_ble_eq_true rfl) (by decide) (by decide) ?_
      rintro v409 T409 h409 L409 X409 e409 ⟨rfl, N409, rfl⟩
      have N409a := Fr.app N405a N409
      show Ends p e below _ T409 (mkF m 113 #[iv i0, iv i1, iv i2, iv i3, iv i4, rv a362, rv a366, iv kk, rv b391, rv a394, .unset, .unset, .unset] [(.ref a362)])
      refine go (fun _ => XS.astore X409.here hx rfl (hb hby at_113) rfl rfl (l' := #[iv i0, iv i1, iv i2, iv i3, iv i4, rv a362, rv a366, iv kk, rv b391, rv a394, rv a362, .unset, .unset]) rfl) ?_
      refine go (fun _ => XS.aload X409.here hx rfl (hb hby at_115) rfl rfl) ?_
      show Ends p e below _ T409 (mkF m 117 #[iv i0, iv i1, iv i2, iv i3, iv i4, rv a362, rv a366, iv kk, rv b391, rv a394, rv a362, .unset, .unset] [(.ref a362)])
      refine go (fun _ => XS.ifnullNo X409.here hx rfl (hb hby at_117) rfl) ?_
      show Ends p e below _ T409 (mkF m 120 #[iv i0, iv i1, iv i2, iv i3, iv i4, rv a362, rv a366, iv kk, rv b391, rv a394, rv a362, .unset, .unset] [])
      refine go (fun _ => XS.aload X409.here hx rfl (hb hby at_120) rfl rfl) ?_
      refine go (fun _ => XS.aload X409.here hx rfl (hb hby at_122) rfl rfl) ?_
      show Ends p e below _ T409 (mkF m 124 #[iv i0, iv i1, iv i2, iv i3, iv i4, rv a362, rv a366, iv kk, rv b391, rv a394, rv a362, .unset, .unset] [(.ref a362), (.ref a362)])
      have F411 := (Exa.keep F404 K405)
      refine cVirt X409 hx hZ hown (by rw [hml]; rfl) e409 (hwi hw 58 rfl) (hwi hw 59 rfl) (hwi hw 61 rfl) (hwi hw 60 rfl) (hwi hw 6 rfl) (hwi hw 62 rfl) (notFace_of_selects (args := #[]) (mvT hZ (hwi hw 61 rfl))) a362 F411 [(.ref a362)] [] rfl (rm_eqself hw a362 _) (hb hby at_124) rfl (lenOf pd_22 rfl) (by decide) (by decide) (Nat.le_of_ble_eq_true rfl) (by decide) (by decide) ?_
      rintro v410 T410 h410 L410 X410 e410 ⟨rfl, N410, rfl⟩
      have N410a := Fr.app N409a N410
      show Ends p e below _ T410 (mkF m 127 #[iv i0, iv i1, iv i2, iv i3, iv i4, rv a362, rv a366, iv kk, rv b391, rv a394, rv a362, .unset, .unset] [(.int (1 : Int32))])
      refine go (fun _ => XS.ifYes X410.here hx rfl (pc0 := 127) (pc' := 132) rfl (hb hby at_127) rfl (XT.i0_ne_t ((by decide) : ¬ ((1 : Int32) = (0 : Int32)))) (by decide) (by decide)) ?_
      show Ends p e below _ T410 (mkF m 132 #[iv i0, iv i1, iv i2, iv i3, iv i4, rv a362, rv a366, iv kk, rv b391, rv a394, rv a362, .unset, .unset] [])
      refine go (fun _ => XS.aload X410.here hx rfl (hb hby at_132) rfl rfl) ?_
      show Ends p e below _ T410 (mkF m 134 #[iv i0, iv i1, iv i2, iv i3, iv i4, rv a362, rv a366, iv kk, rv b391, rv a394, rv a362, .unset, .unset] [(.ref b391)])
      have F412 := (Exa.keep (Exa.ext E394 E391) K405)
      refine cStat X410 hx hZ hown (by rw [hml]; rfl) e410 (hwi hw 53 rfl) (hwi hw 54 rfl) (hwi hw 39 rfl) (hwi hw 55 rfl) [(.ref b391)] [] rfl (rm_moI hw b391 _ F412) (hb hby at_134) rfl (lenOf pd_21 rfl) (by decide) (by decide) (Nat.le_of_ble_eq_true rfl) (by decide) (by decide) ?_
      rintro v413 T413 h413 L413 X413 e413 ⟨rfl, N413, rfl⟩
      have N413a := Fr.app N410a N413
      show Ends p e below _ T413 (mkF m 137 #[iv i0, iv i1, iv i2, iv i3, iv i4, rv a362, rv a366, iv kk, rv b391, rv a394, rv a362, .unset, .unset] [.null])
      refine go (fun _ => XS.astore X413.here hx rfl (hb hby at_137) rfl rfl (l' := #[iv i0, iv i1, iv i2, iv i3, iv i4, rv a362, rv a366, iv kk, rv b391, rv a394, rv a362, .val .null, .unset]) rfl) ?_
      refine go (fun _ => XS.iload X413.here hx rfl (hb hby at_139) rfl) ?_
      refine go (fun _ => XT.iconstV X413.here hx rfl (3 : Int32) (hb hby at_141) (by decide)) ?_
      show Ends p e below _ T413 (mkF m 142 #[iv i0, iv i1, iv i2, iv i3, iv i4, rv a362, rv a366, iv kk, rv b391, rv a394, rv a362, .val .null, .unset] [(.int (3 : Int32)), (.int kk)])
      refine go (fun _ => XS.icmpYes X413.here hx rfl (pc0 := 142) (pc' := 170) rfl (hb hby at_142) rfl (XT.ii_ne_t ((by rw [c45_390]; decide) : ¬ (kk = (3 : Int32)))) (by decide) (by decide)) ?_
      show Ends p e below _ T413 (mkF m 170 #[iv i0, iv i1, iv i2, iv i3, iv i4, rv a362, rv a366, iv kk, rv b391, rv a394, rv a362, .val .null, .unset] [])
      refine go (fun _ => XS.aload X413.here hx rfl (hb hby at_170) rfl rfl) ?_
      show Ends p e below _ T413 (mkF m 172 #[iv i0, iv i1, iv i2, iv i3, iv i4, rv a362, rv a366, iv kk, rv b391, rv a394, rv a362, .val .null, .unset] [.null])
      refine go (fun _ => XT.ifnonnullNo X413.here hx rfl (hb hby at_172) rfl) ?_
      show Ends p e below _ T413 (mkF m 175 #[iv i0, iv i1, iv i2, iv i3, iv i4, rv a362, rv a366, iv kk, rv b391, rv a394, rv a362, .val .null, .unset] [])
      refine go (fun _ => XT.iconstV X413.here hx rfl (1 : Int32) (hb hby at_175) (by decide)) ?_
      refine go (fun _ => XS.goto X413.here hx rfl (pc0 := 176) (pc' := 180) rfl (hb hby at_176) (by decide) (by decide)) ?_
      refine go (fun _ => XS.istore X413.here hx rfl (hb hby at_180) rfl (l' := #[iv i0, iv i1, iv i2, iv i3, iv i4, rv a362, rv a366, iv kk, rv b391, rv a394, rv a362, .val .null, iv (1 : Int32)]) rfl) ?_
      refine go (fun _ => XS.iload X413.here hx rfl (hb hby at_182) rfl) ?_
      show Ends p e below _ T413 (mkF m 184 #[iv i0, iv i1, iv i2, iv i3, iv i4, rv a362, rv a366, iv kk, rv b391, rv a394, rv a362, .val .null, iv (1 : Int32)] [(.int (1 : Int32))])
      refine go (fun _ => XS.ifNo X413.here hx rfl (hb hby at_184) rfl (XT.i0_eq_f ((by decide) : ¬ ((1 : Int32) = (0 : Int32))))) ?_
      show Ends p e below _ T413 (mkF m 187 #[iv i0, iv i1, iv i2, iv i3, iv i4, rv a362, rv a366, iv kk, rv b391, rv a394, rv a362, .val .null, iv (1 : Int32)] [])
      refine go (fun _ => XS.aconstNull X413.here hx rfl (hb hby at_187)) ?_
      show Ends p e below _ T413 (mkF m 188 #[iv i0, iv i1, iv i2, iv i3, iv i4, rv a362, rv a366, iv kk, rv b391, rv a394, rv a362, .val .null, iv (1 : Int32)] [.null])
      refine cStat X413 hx hZ hown (by rw [hml]; rfl) e413 (hwi hw 53 rfl) (hwi hw 54 rfl) (hwi hw 39 rfl) (hwi hw 55 rfl) [.null] [] rfl (rm_moN hw _) (hb hby at_188) rfl (lenOf pd_21 rfl) (by decide) (by decide) (Nat.le_of_ble_eq_true rfl) (by decide) (by decide) ?_
      rintro v414 T414 h414 L414 X414 e414 ⟨rfl, N414, rfl⟩
      have N414a := Fr.app N413a N414
      show Ends p e below _ T414 (mkF m 191 #[iv i0, iv i1, iv i2, iv i3, iv i4, rv a362, rv a366, iv kk, rv b391, rv a394, rv a362, .val .null, iv (1 : Int32)] [.null])
      refine go (fun _ => XT.ifnonnullNo X414.here hx rfl (hb hby at_191) rfl) ?_
      show Ends p e below _ T414 (mkF m 194 #[iv i0, iv i1, iv i2, iv i3, iv i4, rv a362, rv a366, iv kk, rv b391, rv a394, rv a362, .val .null, iv (1 : Int32)] [])
      refine go (fun _ => XT.iconstV X414.here hx rfl (1 : Int32) (hb hby at_194) (by decide)) ?_
      refine go (fun _ => XS.goto X414.here hx rfl (pc0 := 195) (pc' := 199) rfl (hb hby at_195) (by decide) (by decide)) ?_
      show Ends p e below _ T414 (mkF m 199 #[iv i0, iv i1, iv i2, iv i3, iv i4, rv a362, rv a366, iv kk, rv b391, rv a394, rv a362, .val .null, iv (1 : Int32)] [(.int (1 : Int32))])
      exact endN X414 hx hret (by simp) (hb hby at_199) (lvW X414 hlk hZ (own_EW hw) hs0 hS hk H406 e414 (fun h => by rw [hret] at h; cases h) ⟨rfl, N414a⟩ (by decide) (by decide))
    · refine go (fun _ => XS.icmpYes X366.here hx rfl (pc0 := 45) (pc' := 58) rfl (hb hby at_45) rfl (XT.ii_ne_t c45_390) (by decide) (by decide)) ?_
      show Ends p e below _ T366 (mkF m 58 #[iv i0, iv i1, iv i2, iv i3, iv i4, rv a362, rv a366, iv kk, .unset, .unset, .unset, .unset, .unset] [])
      refine go (fun _ => XS.iload X366.here hx rfl (hb hby at_58) rfl) ?_
      refine go (fun _ => XT.iconstV X366.here hx rfl (2 : Int32) (hb hby at_60) (by decide)) ?_
      show Ends p e below _ T366 (mkF m 61 #[iv i0, iv i1, iv i2, iv i3, iv i4, rv a362, rv a366, iv kk, .unset, .unset, .unset, .unset, .unset] [(.int (2 : Int32)), (.int kk)])
      by_cases c61_415 : kk = (2 : Int32)
      · refine go (fun _ => XS.icmpNo X366.here hx rfl (hb hby at_61) rfl (XT.ii_ne_f c61_415)) ?_
        show Ends p e below _ T366 (mkF m 64 #[iv i0, iv i1, iv i2, iv i3, iv i4, rv a362, rv a366, iv kk, .unset, .unset, .unset, .unset, .unset] [])
        refine go (fun _ => XS.iload X366.here hx rfl (hb hby at_64) rfl) ?_
        refine go (fun _ => XT.sipushV X366.here hx rfl (255 : Int32) (hb hby at_66) (by decide)) ?_
        refine go (fun _ => XS.iand X366.here hx rfl (hb hby at_69) rfl) ?_
        refine go (fun _ => XT.i2c X366.here hx rfl (hb hby at_70) rfl) ?_
        show Ends p e below _ T366 (mkF m 71 #[iv i0, iv i1, iv i2, iv i3, iv i4, rv a362, rv a366, iv kk, .unset, .unset, .unset, .unset, .unset] [(.int (i4 &&& (255 : Int32)).toUInt32.toUInt16.toUInt32.toInt32)])
        obtain ⟨ch416, hch416⟩ : ∃ z : Int32, z = (i4 &&& (255 : Int32)).toUInt32.toUInt16.toUInt32.toInt32 := ⟨_, rfl⟩
        have lc416 : ¬ (255 : Int32) < ch416 := by rw [hch416]; exact (own_ch _).1
        have nc416 : nar .char ch416 = ch416 := by rw [hch416]; exact own_nc _
        rw [← hch416]
        show Ends p e below _ T366 (mkF m 71 #[iv i0, iv i1, iv i2, iv i3, iv i4, rv a362, rv a366, iv kk, .unset, .unset, .unset, .unset, .unset] [(.int ch416)])
        refine cStat X366 hx hZ hown (by rw [hml]; rfl) e366 (hwi hw 88 rfl) (hwi hw 89 rfl) (hwi hw 6 rfl) (hwi hw 90 rfl) [(.int ch416)] [] rfl (rm_cvalueOf hw ch416 _ O370 lc416 cz SCS hcz) (hb hby at_71) rfl (lenOf pd_24 rfl) (by decide) (by decide) (Nat.le_of_ble_eq_true rfl) (by decide) (by decide) ?_
        rintro v417 T417 h417 L417 X417 e417 ⟨a417, b417, k417, rfl, N417, K417, ga417, gb417, nn417, E417, Fv417, Fc417, V417⟩
        have N417a := Fr.app N366a N417
        have F418 := (Exa.keep E362 K366)
        have n419 : a362 ≠ a417 := Nat.ne_of_lt (Nat.lt_of_lt_of_le (F418.lt) ga417)
        have n420 : a366 ≠ a417 := Nat.ne_of_lt (Nat.lt_of_lt_of_le (E366.lt) ga417)
        have f421 : Z.heap.size ≤ a417 := Nat.le_trans (O370).1 ga417
        have n422 : a362 ≠ b417 := Nat.ne_of_lt (Nat.lt_of_lt_of_le (F418.lt) gb417)
        have n423 : a366 ≠ b417 := Nat.ne_of_lt (Nat.lt_of_lt_of_le (E366.lt) gb417)
        have f424 : Z.heap.size ≤ b417 := Nat.le_trans (O370).1 gb417
        have C425 : CHr Z own_EL T366.vm h366 T366.vm h417 := CHr.keep K417 sf0 H369.1
        have hk := Nat.le_trans hk C425.2.1
        have H425 := H369.trans C425
        have O426 : Ext Z.heap h417 := xk O370 K417 all0
        show Ends p e below _ T417 (mkF m 74 #[iv i0, iv i1, iv i2, iv i3, iv i4, rv a362, rv a366, iv kk, .unset, .unset, .unset, .unset, .unset] [(.ref a417)])
        refine go (fun _ => XS.astore X417.here hx rfl (hb hby at_74) rfl rfl (l' := #[iv i0, iv i1, iv i2, iv i3, iv i4, rv a362, rv a366, iv kk, rv a417, .unset, .unset, .unset, .unset]) rfl) ?_
        refine go (fun _ => XS.goto X417.here hx rfl (pc0 := 76) (pc' := 95) rfl (hb hby at_76) (by decide) (by decide)) ?_
        show Ends p e below _ T417 (mkF m 95 #[iv i0, iv i1, iv i2, iv i3, iv i4, rv a362, rv a366, iv kk, rv a417, .unset, .unset, .unset, .unset] [])
        obtain ⟨T427, h427, X427, e427, E427, A427, D427, U427, s427⟩ := newO X417 hx hZ hown (hwi hw 37 rfl) (hwi hw 38 rfl) (hwi hw 39 rfl) e417 (g := (mkF m 95 #[iv i0, iv i1, iv i2, iv i3, iv i4, rv a362, rv a366, iv kk, rv a417, .unset, .unset, .unset, .unset] [])) rfl (hb hby at_95) (by decide) (by decide)
        have F428 := (Exa.keep F418 K417)
        have F429 := (Exa.keep E366 K417)
        obtain ⟨a427, g427⟩ : ∃ z : Addr, z = h417.size := ⟨_, rfl⟩
        have n430 : a362 ≠ a427 := fun q => absurd (F428.lt) (by rw [q, g427]; exact Nat.lt_irrefl _)
        have n431 : a366 ≠ a427 := fun q => absurd (F429.lt) (by rw [q, g427]; exact Nat.lt_irrefl _)
        have n432 : a417 ≠ a427 := fun q => absurd (E417.lt) (by rw [q, g427]; exact Nat.lt_irrefl _)
        have n433 : b417 ≠ a427 := fun q => absurd (V417.lt) (by rw [q, g427]; exact Nat.lt_irrefl _)
        have f427 : Z.heap.size ≤ a427 := by rw [g427]; exact (O426).1
        rw [← g427] at A427 D427 U427 s427
        have C434 : CHr Z own_EL T366.vm h417 T366.vm h427 := CHr.ext E427 H425.1
        have hk := Nat.le_trans hk C434.2.1
        have H434 := H425.trans C434
        have O435 : Ext Z.heap h427 := xx O426 E427
        have SF427 : Safe Z own_EL T366.vm h427 a427 := Safe.ext E427 H425.1 (Safe.new (by rw [g427]; exact Nat.le_refl _))
        refine go s427 ?_
        show Ends p e below _ T427 (mkF m 98 #[iv i0, iv i1, iv i2, iv i3, iv i4, rv a362, rv a366, iv kk, rv a417, .unset, .unset, .unset, .unset] [(.ref a427)])
        refine go (fun _ => XS.dup X427.here hx rfl (hb hby at_98) rfl rfl) ?_
        refine go (fun _ => XS.aload X427.here hx rfl (hb hby at_99) rfl rfl) ?_
        refine go (fun _ => XS.aload X427.here hx rfl (hb hby at_101) rfl rfl) ?_
        show Ends p e below _ T427 (mkF m 103 #[iv i0, iv i1, iv i2, iv i3, iv i4, rv a362, rv a366, iv kk, rv a417, .unset, .unset, .unset, .unset] [(.ref a417), (.ref a362), (.ref a427), (.ref a427)])
        have F436 := (D427 (Or.inr (hwi hw 50 rfl)) (ty := (.object "java/lang/String")) (by decide))
        have F437 := (D427 (Or.inr (hwi hw 52 rfl)) (ty := (.object "java/lang/Object")) (by decide))
        have F438 := (Exa.ext E427 F428)
        refine cInit X427 hx hZ hown (by rw [hml]; rfl) e427 (hwi hw 40 rfl) (hwi hw 41 rfl) (hwi hw 39 rfl) (hwi hw 42 rfl) a427 [(.ref a362), (.ref a417)] [(.ref a427)] rfl (rm_mv hw a427 a362 (.ref a417) _ O435 f427 A427 F436 F437 rfl F438) (hb hby at_103) rfl (lenOf pd_20 rfl) rfl (by decide) (by decide) (Nat.le_of_ble_eq_true rfl) (by decide) (by decide) ?_
        rintro v439 T439 h439 L439 X439 e439 ⟨rfl, N439, K439, F439_0, F439_1⟩
        have N439a := Fr.app N417a N439
        have sf440 : ∀ x ∈ [a427], Safe Z own_EL T366.vm h427 x := (sfS SF427 sf0)
        have C440 : CHr Z own_EL T366.vm h427 T366.vm h439 := CHr.keep K439 sf440 H434.1
        have hk := Nat.le_trans hk C440.2.1
        have H440 := H434.trans C440
        have O441 : Ext Z.heap h439 := xk O435 K439 (allS f427 all0)
        show Ends p e below _ T439 (mkF m 106 #[iv i0, iv i1, iv i2, iv i3, iv i4, rv a362, rv a366, iv kk, rv a417, .unset, .unset, .unset, .unset] [(.ref a427)])
        refine go (fun _ => XS.astore X439.here hx rfl (hb hby at_106) rfl rfl (l' := #[iv i0, iv i1, iv i2, iv i3, iv i4, rv a362, rv a366, iv kk, rv a417, rv a427, .unset, .unset, .unset]) rfl) ?_
        refine go (fun _ => XS.aload X439.here hx rfl (hb hby at_108) rfl rfl) ?_
        show Ends p e below _ T439 (mkF m 110 #[iv i0, iv i1, iv i2, iv i3, iv i4, rv a362, rv a366, iv kk, rv a417, rv a427, .unset, .unset, .unset] [(.ref a427)])
        have F442 := (Exa.keep A427 K439)
        refine cStat X439 hx hZ hown (by rw [hml]; rfl) e439 (hwi hw 53 rfl) (hwi hw 54 rfl) (hwi hw 39 rfl) (hwi hw 55 rfl) [(.ref a427)] [] rfl (rm_moM hw a427 a362 _ F442 F439_0) (hb hby at_110) rfl (lenOf pd_21 rfl) (by decide) (by decide) (Nat.le_of_ble_eq_true rfl) (by decide) (by decide) ?_
        rintro v443 T443 h443 L443 X443 e443 ⟨rfl, N443, rfl⟩
        have N443a := Fr.app N439a N443
        show Ends p e below _ T443 (mkF m 113 #[iv i0, iv i1, iv i2, iv i3, iv i4, rv a362, rv a366, iv kk, rv a417, rv a427, .unset, .unset, .unset] [(.ref a362)])
        refine go (fun _ => XS.astore X443.here hx rfl (hb hby at_113) rfl rfl (l' := #[iv i0, iv i1, iv i2, iv i3, iv i4, rv a362, rv a366, iv kk, rv a417, rv a427, rv a362, .unset, .unset]) rfl) ?_
        refine go (fun _ => XS.aload X443.here hx rfl (hb hby at_115) rfl rfl) ?_
        show Ends p e below _ T443 (mkF m 117 #[iv i0, iv i1, iv i2, iv i3, iv i4, rv a362, rv a366, iv kk, rv a417, rv a427, rv a362, .unset, .unset] [(.ref a362)])
        refine go (fun _ => XS.ifnullNo X443.here hx rfl (hb hby at_117) rfl) ?_
        show Ends p e below _ T443 (mkF m 120 #[iv i0, iv i1, iv i2, iv i3, iv i4, rv a362, rv a366, iv kk, rv a417, rv a427, rv a362, .unset, .unset] [])
        refine go (fun _ => XS.aload X443.here hx rfl (hb hby at_120) rfl rfl) ?_
        refine go (fun _ => XS.aload X443.here hx rfl (hb hby at_122) rfl rfl) ?_
        show Ends p e below _ T443 (mkF m 124 #[iv i0, iv i1, iv i2, iv i3, iv i4, rv a362, rv a366, iv kk, rv a417, rv a427, rv a362, .unset, .unset] [(.ref a362), (.ref a362)])
        have F445 := (Exa.keep F438 K439)
        refine cVirt X443 hx hZ hown (by rw [hml]; rfl) e443 (hwi hw 58 rfl) (hwi hw 59 rfl) (hwi hw 61 rfl) (hwi hw 60 rfl) (hwi hw 6 rfl) (hwi hw 62 rfl) (notFace_of_selects (args := #[]) (mvT hZ (hwi hw 61 rfl))) a362 F445 [(.ref a362)] [] rfl (rm_eqself hw a362 _) (hb hby at_124) rfl (lenOf pd_22 rfl) (by decide) (by decide) (Nat.le_of_ble_eq_true rfl) (by decide) (by decide) ?_
        rintro v444 T444 h444 L444 X444 e444 ⟨rfl, N444, rfl⟩
        have N444a := Fr.app N443a N444
        show Ends p e below _ T444 (mkF m 127 #[iv i0, iv i1, iv i2, iv i3, iv i4, rv a362, rv a366, iv kk, rv a417, rv a427, rv a362, .unset, .unset] [(.int (1 : Int32))])
        refine go (fun _ => XS.ifYes X444.here hx rfl (pc0 := 127) (pc' := 132) rfl (hb hby at_127) rfl (XT.i0_ne_t ((by decide) : ¬ ((1 : Int32) = (0 : Int32)))) (by decide) (by decide)) ?_
        show Ends p e below _ T444 (mkF m 132 #[iv i0, iv i1, iv i2, iv i3, iv i4, rv a362, rv a366, iv kk, rv a417, rv a427, rv a362, .unset, .unset] [])
        refine go (fun _ => XS.aload X444.here hx rfl (hb hby at_132) rfl rfl) ?_
        show Ends p e below _ T444 (mkF m 134 #[iv i0, iv i1, iv i2, iv i3, iv i4, rv a362, rv a366, iv kk, rv a417, rv a427, rv a362, .unset, .unset] [(.ref a417)])
        have F446 := (Exa.keep (Exa.ext E427 E417) K439)
        refine cStat X444 hx hZ hown (by rw [hml]; rfl) e444 (hwi hw 53 rfl) (hwi hw 54 rfl) (hwi hw 39 rfl) (hwi hw 55 rfl) [(.ref a417)] [] rfl (rm_moS hw a417 _ F446) (hb hby at_134) rfl (lenOf pd_21 rfl) (by decide) (by decide) (Nat.le_of_ble_eq_true rfl) (by decide) (by decide) ?_
        rintro v447 T447 h447 L447 X447 e447 ⟨rfl, N447, rfl⟩
        have N447a := Fr.app N444a N447
        show Ends p e below _ T447 (mkF m 137 #[iv i0, iv i1, iv i2, iv i3, iv i4, rv a362, rv a366, iv kk, rv a417, rv a427, rv a362, .unset, .unset] [.null])
        refine go (fun _ => XS.astore X447.here hx rfl (hb hby at_137) rfl rfl (l' := #[iv i0, iv i1, iv i2, iv i3, iv i4, rv a362, rv a366, iv kk, rv a417, rv a427, rv a362, .val .null, .unset]) rfl) ?_
        refine go (fun _ => XS.iload X447.here hx rfl (hb hby at_139) rfl) ?_
        refine go (fun _ => XT.iconstV X447.here hx rfl (3 : Int32) (hb hby at_141) (by decide)) ?_
        show Ends p e below _ T447 (mkF m 142 #[iv i0, iv i1, iv i2, iv i3, iv i4, rv a362, rv a366, iv kk, rv a417, rv a427, rv a362, .val .null, .unset] [(.int (3 : Int32)), (.int kk)])
        refine go (fun _ => XS.icmpYes X447.here hx rfl (pc0 := 142) (pc' := 170) rfl (hb hby at_142) rfl (XT.ii_ne_t ((by rw [c61_415]; decide) : ¬ (kk = (3 : Int32)))) (by decide) (by decide)) ?_
        show Ends p e below _ T447 (mkF m 170 #[iv i0, iv i1, iv i2, iv i3, iv i4, rv a362, rv a366, iv kk, rv a417, rv a427, rv a362, .val .null, .unset] [])
        refine go (fun _ => XS.aload X447.here hx rfl (hb hby at_170) rfl rfl) ?_
        show Ends p e below _ T447 (mkF m 172 #[iv i0, iv i1, iv i2, iv i3, iv i4, rv a362, rv a366, iv kk, rv a417, rv a427, rv a362, .val .null, .unset] [.null])
        refine go (fun _ => XT.ifnonnullNo X447.here hx rfl (hb hby at_172) rfl) ?_
        show Ends p e below _ T447 (mkF m 175 #[iv i0, iv i1, iv i2, iv i3, iv i4, rv a362, rv a366, iv kk, rv a417, rv a427, rv a362, .val .null, .unset] [])
        refine go (fun _ => XT.iconstV X447.here hx rfl (1 : Int32) (hb hby at_175) (by decide)) ?_
        refine go (fun _ => XS.goto X447.here hx rfl (pc0 := 176) (pc' := 180) rfl (hb hby at_176) (by decide) (by decide)) ?_
        refine go (fun _ => XS.istore X447.here hx rfl (hb hby at_180) rfl (l' := #[iv i0, iv i1, iv i2, iv i3, iv i4, rv a362, rv a366, iv kk, rv a417, rv a427, rv a362, .val .null, iv (1 : Int32)]) rfl) ?_
        refine go (fun _ => XS.iload X447.here hx rfl (hb hby at_182) rfl) ?_
        show Ends p e below _ T447 (mkF m 184 #[iv i0, iv i1, iv i2, iv i3, iv i4, rv a362, rv a366, iv kk, rv a417, rv a427, rv a362, .val .null, iv (1 : Int32)] [(.int (1 : Int32))])
        refine go (fun _ => XS.ifNo X447.here hx rfl (hb hby at_184) rfl (XT.i0_eq_f ((by decide) : ¬ ((1 : Int32) = (0 : Int32))))) ?_
        show Ends p e below _ T447 (mkF m 187 #[iv i0, iv i1, iv i2, iv i3, iv i4, rv a362, rv a366, iv kk, rv a417, rv a427, rv a362, .val .null, iv (1 : Int32)] [])
        refine go (fun _ => XS.aconstNull X447.here hx rfl (hb hby at_187)) ?_
        show Ends p e below _ T447 (mkF m 188 #[iv i0, iv i1, iv i2, iv i3, iv i4, rv a362, rv a366, iv kk, rv a417, rv a427, rv a362, .val .null, iv (1 : Int32)] [.null])
        refine cStat X447 hx hZ hown (by rw [hml]; rfl) e447 (hwi hw 53 rfl) (hwi hw 54 rfl) (hwi hw 39 rfl) (hwi hw 55 rfl) [.null] [] rfl (rm_moN hw _) (hb hby at_188) rfl (lenOf pd_21 rfl) (by decide) (by decide) (Nat.le_of_ble_eq_true rfl) (by decide) (by decide) ?_
        rintro v448 T448 h448 L448 X448 e448 ⟨rfl, N448, rfl⟩
        have N448a := Fr.app N447a N448
        show Ends p e below _ T448 (mkF m 191 #[iv i0, iv i1, iv i2, iv i3, iv i4, rv a362, rv a366, iv kk, rv a417, rv a427, rv a362, .val .null, iv (1 : Int32)] [.null])
        refine go (fun _ => XT.ifnonnullNo X448.here hx rfl (hb hby at_191) rfl) ?_
        show Ends p e below _ T448 (mkF m 194 #[iv i0, iv i1, iv i2, iv i3, iv i4, rv a362, rv a366, iv kk, rv a417, rv a427, rv a362, .val .null, iv (1 : Int32)] [])
        refine go (fun _ => XT.iconstV X448.here hx rfl (1 : Int32) (hb hby at_194) (by decide)) ?_
        refine go (fun _ => XS.goto X448.here hx rfl (pc0 := 195) (pc' := 199) rfl (hb hby at_195) (by decide) (by decide)) ?_
        show Ends p e below _ T448 (mkF m 199 #[iv i0, iv i1, iv i2, iv i3, iv i4, rv a362, rv a366, iv kk, rv a417, rv a427, rv a362, .val .null, iv (1 : Int32)] [(.int (1 : Int32))])
        exact endN X448 hx hret (by simp) (hb hby at_199) (lvW X448 hlk hZ (own_EW hw) hs0 hS hk H440 e448 (fun h => by rw [hret] at h; cases h) ⟨rfl, N448a⟩ (by decide) (by decide))
      · refine go (fun _ => XS.icmpYes X366.here hx rfl (pc0 := 61) (pc' := 79) rfl (hb hby at_61) rfl (XT.ii_ne_t c61_415) (by decide) (by decide)) ?_
        show Ends p e below _ T366 (mkF m 79 #[iv i0, iv i1, iv i2, iv i3, iv i4, rv a362, rv a366, iv kk, .unset, .unset, .unset, .unset, .unset] [])
        have t449 := own_and3 hkk c33_371 c45_390 c61_415
        obtain ⟨T450, h450, X450, e450, E450, A450, D450, U450, s450⟩ := newO X366 hx hZ hown (hwi hw 37 rfl) (hwi hw 38 rfl) (hwi hw 39 rfl) e366 (g := (mkF m 79 #[iv i0, iv i1, iv i2, iv i3, iv i4, rv a362, rv a366, iv kk, .unset, .unset, .unset, .unset, .unset] [])) rfl (hb hby at_79) (by decide) (by decide)
        have F451 := (Exa.keep E362 K366)
        obtain ⟨a450, g450⟩ : ∃ z : Addr, z = h366.size := ⟨_, rfl⟩
        have n452 : a362 ≠ a450 := fun q => absurd (F451.lt) (by rw [q, g450]; exact Nat.lt_irrefl _)
        have n453 : a366 ≠ a450 := fun q => absurd (E366.lt) (by rw [q, g450]; exact Nat.lt_irrefl _)
        have f450 : Z.heap.size ≤ a450 := by rw [g450]; exact (O370).1
        rw [← g450] at A450 D450 U450 s450
        have C454 : CHr Z own_EL T366.vm h366 T366.vm h450 := CHr.ext E450 H369.1
        have hk := Nat.le_trans hk C454.2.1
        have H454 := H369.trans C454
        have O455 : Ext Z.heap h450 := xx O370 E450
        have SF450 : Safe Z own_EL T366.vm h450 a450 := Safe.ext E450 H369.1 (Safe.new (by rw [g450]; exact Nat.le_refl _))
        refine go s450 ?_
        show Ends p e below _ T450 (mkF m 82 #[iv i0, iv i1, iv i2, iv i3, iv i4, rv a362, rv a366, iv kk, .unset, .unset, .unset, .unset, .unset] [(.ref a450)])
        refine go (fun _ => XS.dup X450.here hx rfl (hb hby at_82) rfl rfl) ?_
        refine go (fun _ => XS.aload X450.here hx rfl (hb hby at_83) rfl rfl) ?_
        refine go (fun _ => XS.iload X450.here hx rfl (hb hby at_85) rfl) ?_
        show Ends p e below _ T450 (mkF m 87 #[iv i0, iv i1, iv i2, iv i3, iv i4, rv a362, rv a366, iv kk, .unset, .unset, .unset, .unset, .unset] [(.int i4), (.ref a366), (.ref a450), (.ref a450)])
        refine cStat X450 hx hZ hown (by rw [hml]; rfl) e450 (hwi hw 63 rfl) (hwi hw 64 rfl) (hwi hw 65 rfl) (hwi hw 66 rfl) [(.int i4)] [(.ref a366), (.ref a450), (.ref a450)] rfl (rm_ivalueOf hw i4 aB cB _ O455 SH SB BX) (hb hby at_87) rfl (lenOf pd_23 rfl) (by decide) (by decide) (Nat.le_of_ble_eq_true rfl) (by decide) (by decide) ?_
        rintro v456 T456 h456 L456 X456 e456 ⟨b456, rfl, N456, K456, E456, F456_0⟩
        have N456a := Fr.app N366a N456
        have C457 : CHr Z own_EL T366.vm h450 T366.vm h456 := CHr.keep K456 sf0 H454.1
        have hk := Nat.le_trans hk C457.2.1
        have H457 := H454.trans C457
        have O458 : Ext Z.heap h456 := xk O455 K456 all0
        show Ends p e below _ T456 (mkF m 90 #[iv i0, iv i1, iv i2, iv i3, iv i4, rv a362, rv a366, iv kk, .unset, .unset, .unset, .unset, .unset] [(.ref b456), (.ref a366), (.ref a450), (.ref a450)])
        have F459 := (Exa.keep A450 K456)
        have F460 := (Fld.keep (D450 (Or.inr (hwi hw 50 rfl)) (ty := (.object "java/lang/String")) (by decide)) K456 nin0)
        have F461 := (Fld.keep (D450 (Or.inr (hwi hw 52 rfl)) (ty := (.object "java/lang/Object")) (by decide)) K456 nin0)
        have F462 := (Exa.keep (Exa.ext E450 E366) K456)
        refine cInit X456 hx hZ hown (by rw [hml]; rfl) e456 (hwi hw 40 rfl) (hwi hw 41 rfl) (hwi hw 39 rfl) (hwi hw 42 rfl) a450 [(.ref a366), (.ref b456)] [(.ref a450)] rfl (rm_mv hw a450 a366 (.ref b456) _ O458 f450 F459 F460 F461 rfl F462) (hb hby at_90) rfl (lenOf pd_20 rfl) rfl (by decide) (by decide) (Nat.le_of_ble_eq_true rfl) (by decide) (by decide) ?_
        rintro v463 T463 h463 L463 X463 e463 ⟨rfl, N463, K463, F463_0, F463_1⟩
        have N463a := Fr.app N456a N463
        have F465 := (Safe.keep K456 sf0 H454.1 SF450)
        have sf464 : ∀ x ∈ [a450], Safe Z own_EL T366.vm h456 x := (sfS F465 sf0)
        have C464 : CHr Z own_EL T366.vm h456 T366.vm h463 := CHr.keep K463 sf464 H457.1
        have hk := Nat.le_trans hk C464.2.1
        have H464 := H457.trans C464
        have O466 : Ext Z.heap h463 := xk O458 K463 (allS f450 all0)
        show Ends p e below _ T463 (mkF m 93 #[iv i0, iv i1, iv i2, iv i3, iv i4, rv a362, rv a366, iv kk, .unset, .unset, .unset, .unset, .unset] [(.ref a450)])
        refine go (fun _ => XS.astore X463.here hx rfl (hb hby at_93) rfl rfl (l' := #[iv i0, iv i1, iv i2, iv i3, iv i4, rv a362, rv a366, iv kk, rv a450, .unset, .unset, .unset, .unset]) rfl) ?_
        show Ends p e below _ T463 (mkF m 95 #[iv i0, iv i1, iv i2, iv i3, iv i4, rv a362, rv a366, iv kk, rv a450, .unset, .unset, .unset, .unset] [])
        obtain ⟨T467, h467, X467, e467, E467, A467, D467, U467, s467⟩ := newO X463 hx hZ hown (hwi hw 37 rfl) (hwi hw 38 rfl) (hwi hw 39 rfl) e463 (g := (mkF m 95 #[iv i0, iv i1, iv i2, iv i3, iv i4, rv a362, rv a366, iv kk, rv a450, .unset, .unset, .unset, .unset] [])) rfl (hb hby at_95) (by decide) (by decide)
        have F468 := (Exa.keep (Exa.keep (Exa.ext E450 F451) K456) K463)
        have F469 := (Exa.keep F462 K463)
        have F470 := (Exa.keep F459 K463)
        have F471 := (Exa.keep E456 K463)
        obtain ⟨a467, g467⟩ : ∃ z : Addr, z = h463.size := ⟨_, rfl⟩
        have n472 : a362 ≠ a467 := fun q => absurd (F468.lt) (by rw [q, g467]; exact Nat.lt_irrefl _)
        have n473 : a366 ≠ a467 := fun q => absurd (F469.lt) (by rw [q, g467]; exact Nat.lt_irrefl _)
        have n474 : a450 ≠ a467 := fun q => absurd (F470.lt) (by rw [q, g467]; exact Nat.lt_irrefl _)
        have n475 : b456 ≠ a467 := fun q => absurd (F471.lt) (by rw [q, g467]; exact Nat.lt_irrefl _)
        have f467 : Z.heap.size ≤ a467 := by rw [g467]; exact (O466).1
        rw [← g467] at A467 D467 U467 s467
        have C476 : CHr Z own_EL T366.vm h463 T366.vm h467 := CHr.ext E467 H464.1
        have hk := Nat.le_trans hk C476.2.1
        have H476 := H464.trans C476
        have O477 : Ext Z.heap h467 := xx O466 E467
        have SF467 : Safe Z own_EL T366.vm h467 a467 := Safe.ext E467 H464.1 (Safe.new (by rw [g467]; exact Nat.le_refl _))
        refine go s467 ?_
        show Ends p e below _ T467 (mkF m 98 #[iv i0, iv i1, iv i2, iv i3, iv i4, rv a362, rv a366, iv kk, rv a450, .unset, .unset, .unset, .unset] [(.ref a467)])
        refine go (fun _ => XS.dup X467.here hx rfl (hb hby at_98) rfl rfl) ?_
        refine go (fun _ => XS.aload X467.here hx rfl (hb hby at_99) rfl rfl) ?_
        refine go (fun _ => XS.aload X467.here hx rfl (hb hby at_101) rfl rfl) ?_
        show Ends p e below _ T467 (mkF m 103 #[iv i0, iv i1, iv i2, iv i3, iv i4, rv a362, rv a366, iv kk, rv a450, .unset, .unset, .unset, .unset] [(.ref a450), (.ref a362), (.ref a467), (.ref a467)])
        have F478 := (D467 (Or.inr (hwi hw 50 rfl)) (ty := (.object "java/lang/String")) (by decide))
        have F479 := (D467 (Or.inr (hwi hw 52 rfl)) (ty := (.object "java/lang/Object")) (by decide))
        have F480 := (Exa.ext E467 F468)
        refine cInit X467 hx hZ hown (by rw [hml]; rfl) e467 (hwi hw 40 rfl) (hwi hw 41 rfl) (hwi hw 39 rfl) (hwi hw 42 rfl) a467 [(.ref a362), (.ref a450)] [(.ref a467)] rfl (rm_mv hw a467 a362 (.ref a450) _ O477 f467 A467 F478 F479 rfl F480) (hb hby at_103) rfl (lenOf pd_20 rfl) rfl (by decide) (by decide) (Nat.le_of_ble_eq_true rfl) (by decide) (by decide) ?_
        rintro v481 T481 h481 L481 X481 e481 ⟨rfl, N481, K481, F481_0, F481_1⟩
        have N481a := Fr.app N463a N481
        have sf482 : ∀ x ∈ [a467], Safe Z own_EL T366.vm h467 x := (sfS SF467 sf0)
        have C482 : CHr Z own_EL T366.vm h467 T366.vm h481 := CHr.keep K481 sf482 H476.1
        have hk := Nat.le_trans hk C482.2.1
        have H482 := H476.trans C482
        have O483 : Ext Z.heap h481 := xk O477 K481 (allS f467 all0)
        show Ends p e below _ T481 (mkF m 106 #[iv i0, iv i1, iv i2, iv i3, iv i4, rv a362, rv a366, iv kk, rv a450, .unset, .unset, .unset, .unset] [(.ref a467)])
        refine go (fun _ => XS.astore X481.here hx rfl (hb hby at_106) rfl rfl (l' := #[iv i0, iv i1, iv i2, iv i3, iv i4, rv a362, rv a366, iv kk, rv a450, rv a467, .unset, .unset, .unset]) rfl) ?_
        refine go (fun _ => XS.aload X481.here hx rfl (hb hby at_108) rfl rfl) ?_
        show Ends p e below _ T481 (mkF m 110 #[iv i0, iv i1, iv i2, iv i3, iv i4, rv a362, rv a366, iv kk, rv a450, rv a467, .unset, .unset, .unset] [(.ref a467)])
        have F484 := (Exa.keep A467 K481)
        refine cStat X481 hx hZ hown (by rw [hml]; rfl) e481 (hwi hw 53 rfl) (hwi hw 54 rfl) (hwi hw 39 rfl) (hwi hw 55 rfl) [(.ref a467)] [] rfl (rm_moM hw a467 a362 _ F484 F481_0) (hb hby at_110) rfl (lenOf pd_21 rfl) (by decide) (by decide) (Nat.le_of_ble_eq_true rfl) (by decide) (by decide) ?_
        rintro v485 T485 h485 L485 X485 e485 ⟨rfl, N485, rfl⟩
        have N485a := Fr.app N481a N485
        show Ends p e below _ T485 (mkF m 113 #[iv i0, iv i1, iv i2, iv i3, iv i4, rv a362, rv a366, iv kk, rv a450, rv a467, .unset, .unset, .unset] [(.ref a362)])
        refine go (fun _ => XS.astore X485.here hx rfl (hb hby at_113) rfl rfl (l' := #[iv i0, iv i1, iv i2, iv i3, iv i4, rv a362, rv a366, iv kk, rv a450, rv a467, rv a362, .unset, .unset]) rfl) ?_
        refine go (fun _ => XS.aload X485.here hx rfl (hb hby at_115) rfl rfl) ?_
        show Ends p e below _ T485 (mkF m 117 #[iv i0, iv i1, iv i2, iv i3, iv i4, rv a362, rv a366, iv kk, rv a450, rv a467, rv a362, .unset, .unset] [(.ref a362)])
        refine go (fun _ => XS.ifnullNo X485.here hx rfl (hb hby at_117) rfl) ?_
        show Ends p e below _ T485 (mkF m 120 #[iv i0, iv i1, iv i2, iv i3, iv i4, rv a362, rv a366, iv kk, rv a450, rv a467, rv a362, .unset, .unset] [])
        refine go (fun _ => XS.aload X485.here hx rfl (hb hby at_120) rfl rfl) ?_
        refine go (fun _ => XS.aload X485.here hx rfl (hb hby at_122) rfl rfl) ?_
        show Ends p e below _ T485 (mkF m 124 #[iv i0, iv i1, iv i2, iv i3, iv i4, rv a362, rv a366, iv kk, rv a450, rv a467, rv a362, .unset, .unset] [(.ref a362), (.ref a362)])
        have F487 := (Exa.keep F480 K481)
        refine cVirt X485 hx hZ hown (by rw [hml]; rfl) e485 (hwi hw 58 rfl) (hwi hw 59 rfl) (hwi hw 61 rfl) (hwi hw 60 rfl) (hwi hw 6 rfl) (hwi hw 62 rfl) (notFace_of_selects (args := #[]) (mvT hZ (hwi hw 61 rfl))) a362 F487 [(.ref a362)] [] rfl (rm_eqself hw a362 _) (hb hby at_124) rfl (lenOf pd_22 rfl) (by decide) (by decide) (Nat.le_of_ble_eq_true rfl) (by decide) (by decide) ?_
        rintro v486 T486 h486 L486 X486 e486 ⟨rfl, N486, rfl⟩
        have N486a := Fr.app N485a N486
        show Ends p e below _ T486 (mkF m 127 #[iv i0, iv i1, iv i2, iv i3, iv i4, rv a362, rv a366, iv kk, rv a450, rv a467, rv a362, .unset, .unset] [(.int (1 : Int32))])
        refine go (fun _ => XS.ifYes X486.here hx rfl (pc0 := 127) (pc' := 132) rfl (hb hby at_127) rfl (XT.i0_ne_t ((by decide) : ¬ ((1 : Int32) = (0 : Int32)))) (by decide) (by decide)) ?_
        show Ends p e below _ T486 (mkF m 132 #[iv i0, iv i1, iv i2, iv i3, iv i4, rv a362, rv a366, iv kk, rv a450, rv a467, rv a362, .unset, .unset] [])
        refine go (fun _ => XS.aload X486.here hx rfl (hb hby at_132) rfl rfl) ?_
        show Ends p e below _ T486 (mkF m 134 #[iv i0, iv i1, iv i2, iv i3, iv i4, rv a362, rv a366, iv kk, rv a450, rv a467, rv a362, .unset, .unset] [(.ref a450)])
        have F488 := (Exa.keep (Exa.ext E467 F470) K481)
        have F489 := (Fld.keep (Fld.ext E467 F463_0) K481 (ninS n474 nin0))
        refine cStat X486 hx hZ hown (by rw [hml]; rfl) e486 (hwi hw 53 rfl) (hwi hw 54 rfl) (hwi hw 39 rfl) (hwi hw 55 rfl) [(.ref a450)] [] rfl (rm_moM hw a450 a366 _ F488 F489) (hb hby at_134) rfl (lenOf pd_21 rfl) (by decide) (by decide) (Nat.le_of_ble_eq_true rfl) (by decide) (by decide) ?_
        rintro v490 T490 h490 L490 X490 e490 ⟨rfl, N490, rfl⟩
        have N490a := Fr.app N486a N490
        show Ends p e below _ T490 (mkF m 137 #[iv i0, iv i1, iv i2, iv i3, iv i4, rv a362, rv a366, iv kk, rv a450, rv a467, rv a362, .unset, .unset] [(.ref a366)])
        refine go (fun _ => XS.astore X490.here hx rfl (hb hby at_137) rfl rfl (l' := #[iv i0, iv i1, iv i2, iv i3, iv i4, rv a362, rv a366, iv kk, rv a450, rv a467, rv a362, rv a366, .unset]) rfl) ?_
        refine go (fun _ => XS.iload X490.here hx rfl (hb hby at_139) rfl) ?_
        refine go (fun _ => XT.iconstV X490.here hx rfl (3 : Int32) (hb hby at_141) (by decide)) ?_
        show Ends p e below _ T490 (mkF m 142 #[iv i0, iv i1, iv i2, iv i3, iv i4, rv a362, rv a366, iv kk, rv a450, rv a467, rv a362, rv a366, .unset] [(.int (3 : Int32)), (.int kk)])
        refine go (fun _ => XS.icmpNo X490.here hx rfl (hb hby at_142) rfl (XT.ii_ne_f t449)) ?_
        show Ends p e below _ T490 (mkF m 145 #[iv i0, iv i1, iv i2, iv i3, iv i4, rv a362, rv a366, iv kk, rv a450, rv a467, rv a362, rv a366, .unset] [])
        refine go (fun _ => XS.aload X490.here hx rfl (hb hby at_145) rfl rfl) ?_
        show Ends p e below _ T490 (mkF m 147 #[iv i0, iv i1, iv i2, iv i3, iv i4, rv a362, rv a366, iv kk, rv a450, rv a467, rv a362, rv a366, .unset] [(.ref a366)])
        refine go (fun _ => XS.ifnullNo X490.here hx rfl (hb hby at_147) rfl) ?_
        show Ends p e below _ T490 (mkF m 150 #[iv i0, iv i1, iv i2, iv i3, iv i4, rv a362, rv a366, iv kk, rv a450, rv a467, rv a362, rv a366, .unset] [])
        refine go (fun _ => XS.aload X490.here hx rfl (hb hby at_150) rfl rfl) ?_
        refine go (fun _ => XS.aload X490.here hx rfl (hb hby at_152) rfl rfl) ?_
        show Ends p e below _ T490 (mkF m 154 #[iv i0, iv i1, iv i2, iv i3, iv i4, rv a362, rv a366, iv kk, rv a450, rv a467, rv a362, rv a366, .unset] [(.ref a366), (.ref a366)])
        have F492 := (Exa.keep (Exa.ext E467 F469) K481)
        refine cVirt X490 hx hZ hown (by rw [hml]; rfl) e490 (hwi hw 58 rfl) (hwi hw 59 rfl) (hwi hw 61 rfl) (hwi hw 60 rfl) (hwi hw 6 rfl) (hwi hw 62 rfl) (notFace_of_selects (args := #[]) (mvT hZ (hwi hw 61 rfl))) a366 F492 [(.ref a366)] [] rfl (rm_eqself hw a366 _) (hb hby at_154) rfl (lenOf pd_22 rfl) (by decide) (by decide) (Nat.le_of_ble_eq_true rfl) (by decide) (by decide) ?_
        rintro v491 T491 h491 L491 X491 e491 ⟨rfl, N491, rfl⟩
        have N491a := Fr.app N490a N491
        show Ends p e below _ T491 (mkF m 157 #[iv i0, iv i1, iv i2, iv i3, iv i4, rv a362, rv a366, iv kk, rv a450, rv a467, rv a362, rv a366, .unset] [(.int (1 : Int32))])
        refine go (fun _ => XS.ifNo X491.here hx rfl (hb hby at_157) rfl (XT.i0_eq_f ((by decide) : ¬ ((1 : Int32) = (0 : Int32))))) ?_
        show Ends p e below _ T491 (mkF m 160 #[iv i0, iv i1, iv i2, iv i3, iv i4, rv a362, rv a366, iv kk, rv a450, rv a467, rv a362, rv a366, .unset] [])
        refine go (fun _ => XT.iconstV X491.here hx rfl (1 : Int32) (hb hby at_160) (by decide)) ?_
        refine go (fun _ => XS.goto X491.here hx rfl (pc0 := 161) (pc' := 165) rfl (hb hby at_161) (by decide) (by decide)) ?_
        refine go (fun _ => XS.istore X491.here hx rfl (hb hby at_165) rfl (l' := #[iv i0, iv i1, iv i2, iv i3, iv i4, rv a362, rv a366, iv kk, rv a450, rv a467, rv a362, rv a366, iv (1 : Int32)]) rfl) ?_
        refine go (fun _ => XS.goto X491.here hx rfl (pc0 := 167) (pc' := 182) rfl (hb hby at_167) (by decide) (by decide)) ?_
        refine go (fun _ => XS.iload X491.here hx rfl (hb hby at_182) rfl) ?_
        show Ends p e below _ T491 (mkF m 184 #[iv i0, iv i1, iv i2, iv i3, iv i4, rv a362, rv a366, iv kk, rv a450, rv a467, rv a362, rv a366, iv (1 : Int32)] [(.int (1 : Int32))])
        refine go (fun _ => XS.ifNo X491.here hx rfl (hb hby at_184) rfl (XT.i0_eq_f ((by decide) : ¬ ((1 : Int32) = (0 : Int32))))) ?_
        show Ends p e below _ T491 (mkF m 187 #[iv i0, iv i1, iv i2, iv i3, iv i4, rv a362, rv a366, iv kk, rv a450, rv a467, rv a362, rv a366, iv (1 : Int32)] [])
        refine go (fun _ => XS.aconstNull X491.here hx rfl (hb hby at_187)) ?_
        show Ends p e below _ T491 (mkF m 188 #[iv i0, iv i1, iv i2, iv i3, iv i4, rv a362, rv a366, iv kk, rv a450, rv a467, rv a362, rv a366, iv (1 : Int32)] [.null])
        refine cStat X491 hx hZ hown (by rw [hml]; rfl) e491 (hwi hw 53 rfl) (hwi hw 54 rfl) (hwi hw 39 rfl) (hwi hw 55 rfl) [.null] [] rfl (rm_moN hw _) (hb hby at_188) rfl (lenOf pd_21 rfl) (by decide) (by decide) (Nat.le_of_ble_eq_true rfl) (by decide) (by decide) ?_
        rintro v493 T493 h493 L493 X493 e493 ⟨rfl, N493, rfl⟩
        have N493a := Fr.app N491a N493
        show Ends p e below _ T493 (mkF m 191 #[iv i0, iv i1, iv i2, iv i3, iv i4, rv a362, rv a366, iv kk, rv a450, rv a467, rv a362, rv a366, iv (1 : Int32)] [.null])
        refine go (fun _ => XT.ifnonnullNo X493.here hx rfl (hb hby at_191) rfl) ?_
        show Ends p e below _ T493 (mkF m 194 #[iv i0, iv i1, iv i2, iv i3, iv i4, rv a362, rv a366, iv kk, rv a450, rv a467, rv a362, rv a366, iv (1 : Int32)] [])
        refine go (fun _ => XT.iconstV X493.here hx rfl (1 : Int32) (hb hby at_194) (by decide)) ?_
        refine go (fun _ => XS.goto X493.here hx rfl (pc0 := 195) (pc' := 199) rfl (hb hby at_195) (by decide) (by decide)) ?_
        show Ends p e below _ T493 (mkF m 199 #[iv i0, iv i1, iv i2, iv i3, iv i4, rv a362, rv a366, iv kk, rv a450, rv a467, rv a362, rv a366, iv (1 : Int32)] [(.int (1 : Int32))])
        exact endN X493 hx hret (by simp) (hb hby at_199) (lvW X493 hlk hZ (own_EW hw) hs0 hS hk H482 e493 (fun h => by rw [hret] at h; cases h) ⟨rfl, N493a⟩ (by decide) (by decide))
set_option maxRecDepth 65536 in
set_option maxHeartbeats 40000000 in
theorem comes_1 {Post : Tables → Env → Array Value → State → Outcome → State → Prop} (hpost : ∀ tb e args s v u, (limb_1_1.after args s (.returned v) u = true ∧ limb_1_2.after args s (.returned v) u = true ∧ True) → ReturnedEndW s (.returned v) u (Jvm.fieldLocs frame_1_writes args s ++ Jvm.arrayLocs frame_1_arrays args s ++ Jvm.staticLocs frame_1_statics s) 32 1152 → Post tb e args s (.returned v) u) :
    ArmFor flags0 classFile x code maxLocals ret World_1 tables_1 room_1 Calls_1 rest_1 Pre_1 Post := by
  intro l hfl _ _ p e ha hc hk s m args below hf hA hF happ hP
  obtain ⟨hcalls, hrest, hpre⟩ := hP
  obtain ⟨-, -, -, hnamed, -, -, -, hat⟩ := (Spec.applies_iff hf).mp happ
  obtain ⟨hg, hn⟩ := and_e (Cond.before_iff.mp (show (Jvm.Cond.and given_1 narrow_1).before args s = true from hpre))
  obtain ⟨gv0, gvtr⟩ := and_e hg
  obtain ⟨gv1, gvtrr⟩ := and_e gvtr
  obtain ⟨gv2, gvtrrr⟩ := and_e gvtrr
  obtain ⟨gv3, gvtrrrr⟩ := and_e gvtrrr
  obtain ⟨gv4, gv5⟩ := and_e gvtrrrr
  obtain ⟨w0, w1, w2, w3, w4, rfl⟩ : ∃ w0 w1 w2 w3 w4 : Value, args = #[w0, w1, w2, w3, w4] := by
    have hs : args.size = 5 := by simpa [Cond.value, given_1] using gv0
    obtain ⟨L⟩ := args
    match L, hs with
    | [w0, w1, w2, w3, w4], _ => exact ⟨w0, w1, w2, w3, w4, rfl⟩
  have hw := fun d (hd : d ∈ tables_1) => atoms_spec (ws := Jvm.Cond.code x code maxLocals ret :: tables_1) hat d (List.mem_cons_of_mem _ hd)
  have hfit : Fit s := fun {y c} hc i hi => by
    obtain ⟨ha, rfl⟩ := Array.getElem?_eq_some_iff.mp hc
    have q := List.all_eq_true.mp ((Array.all_eq_true_iff_forall_mem.mp hF) _ (Array.getElem_mem ha)) i (List.mem_range.mpr hi)
    simpa [Array.getElem?_eq_getElem hi] using q
  obtain ⟨hsets, hown0⟩ := atoms_of _ (rest_1_c_eq ▸ (show rest_1_c.before _ s = true from hrest))
  obtain ⟨i0, ei0⟩ := is_v gv1
  obtain rfl : w0 = (.int i0) := Option.some.inj ei0
  obtain ⟨i1, ei1⟩ := is_v gv2
  obtain rfl : w1 = (.int i1) := Option.some.inj ei1
  obtain ⟨i2, ei2⟩ := is_v gv3
  obtain rfl : w2 = (.int i2) := Option.some.inj ei2
  obtain ⟨i3, ei3⟩ := is_v gv4
  obtain rfl : w3 = (.int i3) := Option.some.inj ei3
  obtain ⟨i4, ei4⟩ := is_v gv5
  obtain rfl : w4 = (.int i4) := Option.some.inj ei4
  obtain ⟨cz, evz⟩ := is_v (Cond.before_iff.mp (hsets _ (List.mem_of_getElem? (i := 1) rfl)))
  have SCS := Sta.start evz (Or.inl (hsets _ (List.mem_of_getElem? (i := 0) rfl)))
  have hcz : ¬ cz = (0 : Int32) := gotF (Cond.eq_ints evz (Term.int_eval (0 : Int32))) (not_v (Cond.before_iff.mp (hsets _ (List.mem_of_getElem? (i := 2) rfl))))
  have hcw : Jvm.Lit.compactW.before _ s = true := hsets _ (List.mem_of_getElem? (i := 2) rfl)
  have wI1 := Cond.before_iff.mp (hsets _ (List.mem_of_getElem? (i := 12) rfl))
  have SH := Sta.start (eqv_i (Term.int_eval (127 : Int32)) wI1) (Or.inl (hsets _ (List.mem_of_getElem? (i := 10) rfl)))
  have wI2 := Cond.before_iff.mp (hsets _ (List.mem_of_getElem? (i := 13) rfl))
  obtain ⟨aB, evB⟩ := arr_v wI2
  have SB := Sta.start evB (Or.inr ⟨(hwi hw 68 rfl), (hsets _ (List.mem_of_getElem? (i := 11) rfl))⟩)
  obtain ⟨cB, AB⟩ := Arr.start evB wI2
  have wI3 := Cond.before_iff.mp (hsets _ (List.mem_of_getElem? (i := 15) rfl))
  have lB := own_len evB AB (eqv_i (Term.int_eval (256 : Int32)) wI3)
  have wI4 := Cond.before_iff.mp (hsets _ (List.mem_of_getElem? (i := 16) rfl))
  have BX : Bxs s aB cB "java/lang/Integer" "I" (256 : Int32) (fun j => .int (j - 128)) := Bxs.start (fun _ => evB) AB lB.1 lB.2 (by decide) wI4 (fun X j hj hq => eqv_i (own_idx hj) hq)
  have hCH : CHv s own_EL s.vm s.heap := CHv.start (own_EW hw) (fun q hq => hcalls.1 q hq) hcw (hwi hw 23 rfl) (hwi hw 5 rfl)
  obtain ⟨n, o, h1, h2, h3, _, L, rfl, ⟨rfl, N⟩, -, hq⟩ := (rm_law (l := l) hw i0 i1 i2 i3 i4 aB cB s.heap ⟨Nat.le_refl _, fun _ _ q => q⟩ cz SCS hcz SH SB BX) tables_1 p e ha hc hk s m _ below hf ((Spec.applies_iff_loose hf).mp happ).1 ⟨rfl, State.Warmed39.refl s, rfl, hCH⟩ trivial
  refine ⟨n, _, h1, h2, h3, hpost _ _ _ _ _ _ ⟨Cond.after_iff.mpr rfl, Cond.after_iff.mpr (eq_i res_at (Term.int_eval (1)) rfl), trivial⟩ ⟨hq.1, hq.2.1, hq.2.2.1, (hq.2.2.2.sift fun y hy => Or.inr (N y hy)).mono (by decide) (by decide)⟩⟩
theorem main_1_1 : Claimed_1_1 := comes_1 fun _ _ _ _ _ _ h hF => ⟨h.1, hF⟩
theorem main_1_2 : Claimed_1_2 := comes_1 fun _ _ _ _ _ _ h hF => ⟨h.2.1, hF⟩
end Jvm.Pilot.@@N@@
namespace Jvm.Pilot.@@N@@
open Jvm Jvm.ClassFile Sem Op Lib Jvm.Free Jvm.Stand Jvm.Pilot.@@N@@.Jvm.D
/-! MADE BY PROGRAM (witnessworld.py) out of the Statement's table words and the real class files: 25 classes; the members and pool entries that the words name. The judged class is class 1, her method 2. -/
namespace start1
open Jvm.ClassFile
def u (s : String) : CpInfo := .utf8 (stringToUtf16 s)
/-- a pool by its gaps: so many unusable entries, then the entry; so many at the end -/
def gap : Nat → List CpInfo → List CpInfo
  | 0, r => r
  | n + 1, r => .unusable :: gap n r
def poolList (es : List (Nat × CpInfo)) (last : Nat) : List CpInfo := es.foldr (fun e r => gap e.1 (e.2 :: r)) (gap last [])
def pool (es : List (Nat × CpInfo)) (last : Nat) : Array CpInfo := ⟨poolList es last⟩
def fileOf (pool : Array CpInfo) (this : Nat) (attrs : Array Attribute := #[]) (ms : Array MethodInfo := #[]) (fl : Nat := 33) (sup : Nat := 0) (ifs : Array Nat := #[]) (fds : Array FieldInfo := #[]) : ClassFile where
  minorVersion := 0
  majorVersion := 65
  constantPool := pool
  accessFlags := fl
  thisClass := this
  superClass := sup
  interfaces := ifs
  fields := fds
  methods := ms
  attributes := attrs
def plain (name : String) (sup : Option ClassId) : Class where
  name := name
  kind := .ordinary
  loader := none
  accessFlags := 33
  super := sup
  interfaces := #[]
  cf := none
  fields := #[]
  methods := #[]
  instanceTypes := #[]
  staticTypes := #[]
  resolved := #[]
  callSites := []
  init := .initialized
  statics := none
  mirror := none

def pool0 : Array CpInfo := pool [(5, u "<init>"), (0, u "()V"), (1, .class_ 10), (1, u "java/lang/Object")] 113

def k0c0 : Code := { maxStack := 0, maxLocals := 1, code := object_method_1_code, exceptionTable := #[], attributes := #[] }
def k0m0 : Method := { name := "<init>", desc := "()V", sig := { parameters := [], returnType := none }, accessFlags := 1, code := some k0c0 }
/-- java/lang/Object -/
def k0 : Class := { plain "java/lang/Object" none with
  accessFlags := 33
  interfaces := #[]
  cf := some (fileOf pool0 8 #[] #[{ accessFlags := 1, nameIndex := 5, descriptorIndex := 6, attributes := #[] }] 33 0 #[] #[])
  fields := #[]
  methods := #[k0m0]
  instanceTypes := #[]
  staticTypes := #[]
  resolved := Array.replicate 124 none
  statics := none }

def pool1 : Array CpInfo := pool [(2, .class_ 4), (1, u "java/lang/Object"), (0, u "<init>"), (0, u "()V"), (0, .class_ 8), (0, u "java/lang/String"), (0, .methodref 7 10), (0, .nameAndType 5 11), (0, u "([C)V"), (0, .methodref 13 14), (0, .class_ 15), (0, .nameAndType 16 17), (0, u "com/example/durable_state/durablestate/io/MarkedValueMarkOfPinLaw"), (0, u "drawn"), (0, u "(IIII)Ljava/lang/String;"), (0, .methodref 19 20), (0, .class_ 21), (0, .nameAndType 22 23), (0, u "java/lang/Integer"), (0, u "valueOf"), (0, u "(I)Ljava/lang/Integer;"), (0, .methodref 7 25), (0, .nameAndType 22 26), (0, u "(C)Ljava/lang/String;"), (0, .class_ 28), (0, u "com/example/durable_state/durablestate/io/MarkedValue"), (0, .methodref 27 30), (0, .nameAndType 5 31), (0, u "(Ljava/lang/String;Ljava/lang/Object;)V"), (0, .methodref 27 33), (0, .nameAndType 34 35), (0, u "markOf"), (0, u "(Ljava/lang/Object;)Ljava/lang/String;"), (0, .methodref 7 37), (0, .nameAndType 38 39), (0, u "equals"), (0, u "(Ljava/lang/Object;)Z"), (3, u "law"), (0, u "(IIIII)Z")] 2

def k1m0 : Method := { name := "<init>", desc := "()V", sig := { parameters := [], returnType := none }, accessFlags := 1, code := none }
def k1c1 : Code := { maxStack := 6, maxLocals := 7, code := method_2_code, exceptionTable := #[], attributes := #[] }
def k1m1 : Method := { name := "drawn", desc := "(IIII)Ljava/lang/String;", sig := { parameters := [.int, .int, .int, .int], returnType := some (.object "java/lang/String") }, accessFlags := 10, code := some k1c1 }
def k1c2 : Code := { maxStack := 4, maxLocals := 13, code := code, exceptionTable := #[], attributes := #[] }
def k1m2 : Method := { name := "law", desc := "(IIIII)Z", sig := { parameters := [.int, .int, .int, .int, .int], returnType := some .boolean }, accessFlags := 9, code := some k1c2 }
/-- com/example/durable_state/durablestate/io/MarkedValueMarkOfPinLaw -/
def k1 : Class := { plain "com/example/durable_state/durablestate/io/MarkedValueMarkOfPinLaw" (some 0) with
  accessFlags := 49
  interfaces := #[]
  cf := some (fileOf pool1 13 #[] #[{ accessFlags := 1, nameIndex := 5, descriptorIndex := 6, attributes := #[] }, { accessFlags := 10, nameIndex := 16, descriptorIndex := 17, attributes := #[] }, { accessFlags := 9, nameIndex := 43, descriptorIndex := 44, attributes := #[] }] 49 2 #[] #[])
  fields := #[]
  methods := #[k1m0, k1m1, k1m2]
  instanceTypes := #[]
  staticTypes := #[]
  resolved := Array.replicate 47 none
  statics := none }

def pool2 : Array CpInfo := pool [(1, .class_ 2), (0, u "java/io/Serializable"), (0, .class_ 4), (0, u "java/lang/Object")] 2

/-- java/io/Serializable -/
def k2 : Class := { plain "java/io/Serializable" (some 0) with
  accessFlags := 1537
  interfaces := #[]
  cf := some (fileOf pool2 1 #[] #[] 1537 3 #[] #[])
  fields := #[]
  methods := #[]
  instanceTypes := #[]
  staticTypes := #[]
  resolved := Array.replicate 7 none
  statics := none }

def pool3 : Array CpInfo := pool [(1, .class_ 2), (0, u "java/lang/Comparable"), (0, .class_ 4), (0, u "java/lang/Object")] 7

/-- java/lang/Comparable -/
def k3 : Class := { plain "java/lang/Comparable" (some 0) with
  accessFlags := 1537
  interfaces := #[]
  cf := some (fileOf pool3 1 #[] #[] 1537 3 #[] #[])
  fields := #[]
  methods := #[]
  instanceTypes := #[]
  staticTypes := #[]
  resolved := Array.replicate 12 none
  statics := none }

def pool4 : Array CpInfo := pool [(2, .class_ 4), (1, u "java/lang/CharSequence"), (42, .class_ 48), (0, u "java/lang/CharSequence$1CodePointIterator"), (10, .class_ 60), (0, u "java/lang/CharSequence$1CharIterator"), (5, .class_ 67), (0, u "java/lang/Object")] 63

/-- java/lang/CharSequence -/
def k4 : Class := { plain "java/lang/CharSequence" (some 0) with
  accessFlags := 1537
  interfaces := #[]
  cf := some (fileOf pool4 2 #[.nestMembers #[47, 59]] #[] 1537 66 #[] #[])
  fields := #[]
  methods := #[]
  instanceTypes := #[]
  staticTypes := #[]
  resolved := Array.replicate 131 none
  statics := none }

def pool5 : Array CpInfo := pool [(1, .class_ 2), (0, u "java/lang/constant/Constable"), (0, .class_ 4), (0, u "java/lang/Object")] 6

/-- java/lang/constant/Constable -/
def k5 : Class := { plain "java/lang/constant/Constable" (some 0) with
  accessFlags := 1537
  interfaces := #[]
  cf := some (fileOf pool5 1 #[] #[] 1537 3 #[] #[])
  fields := #[]
  methods := #[]
  instanceTypes := #[]
  staticTypes := #[]
  resolved := Array.replicate 11 none
  statics := none }

def pool6 : Array CpInfo := pool [(1, .class_ 2), (0, u "java/lang/constant/ConstantDesc"), (0, .class_ 4), (0, u "java/lang/Object")] 32

/-- java/lang/constant/ConstantDesc -/
def k6 : Class := { plain "java/lang/constant/ConstantDesc" (some 0) with
  accessFlags := 1537
  interfaces := #[]
  cf := some (fileOf pool6 1 #[] #[] 1537 3 #[] #[])
  fields := #[]
  methods := #[]
  instanceTypes := #[]
  staticTypes := #[]
  resolved := Array.replicate 37 none
  statics := none }

def pool7 : Array CpInfo := pool [(1, .methodref 2 3), (0, .class_ 4), (0, .nameAndType 5 6), (0, u "java/lang/Object"), (0, u "<init>"), (0, u "()V"), (0, .string 8), (0, u ""), (0, .fieldref 10 11), (0, .class_ 12), (0, .nameAndType 13 14), (0, u "java/lang/String"), (0, u "value"), (0, u "[B"), (0, .fieldref 10 16), (0, .nameAndType 17 18), (0, u "coder"), (0, u "B"), (2, u "hash"), (0, u "I"), (2, u "hashIsZero"), (0, u "Z"), (0, .methodref 10 28), (0, .nameAndType 5 29), (0, u "([CIILjava/lang/Void;)V"), (8, .fieldref 10 39), (0, .nameAndType 40 26), (0, u "COMPACT_STRINGS"), (1, .class_ 44), (1, u "java/lang/StringUTF16"), (0, u "compress"), (1, .methodref 42 48), (0, .nameAndType 49 50), (0, u "coderFromArrayLen"), (0, u "([BI)B"), (2, u "toBytes"), (53, .class_ 109), (1, u "java/lang/StringLatin1"), (67, .methodref 42 178), (0, .nameAndType 45 179), (0, u "([CII)[B"), (29, .methodref 10 210), (0, .nameAndType 5 211), (0, u "([BB)V"), (157, u "(C)Z"), (173, u "equals"), (29, u "(Ljava/lang/Object;)Z"), (1, .class_ 576), (0, u "java/lang/CharSequence"), (22, u "CASE_INSENSITIVE_ORDER"), (0, u "Ljava/util/Comparator;"), (181, u "valueOf"), (0, u "(C)Ljava/lang/String;"), (226, u "([C)V"), (4, .methodref 107 1016), (0, .nameAndType 1017 369), (0, u "canEncode"), (0, .methodref 107 1019), (0, .nameAndType 53 1020), (0, u "(C)[B"), (80, u "serialPersistentFields"), (0, u "[Ljava/io/ObjectStreamField;"), (0, .class_ 1104), (0, u "java/lang/String$CaseInsensitiveComparator"), (1, .class_ 1107), (0, u "java/io/Serializable"), (0, .class_ 1109), (0, u "java/lang/Comparable"), (0, .class_ 1111), (0, u "java/lang/constant/Constable"), (0, .class_ 1113), (0, u "java/lang/constant/ConstantDesc"), (2, u "serialVersionUID"), (0, u "J"), (3, u "REPL"), (0, u "C"), (2, u "LATIN1"), (1, u "UTF16")] 323

def k7m0 : Method := { name := "<init>", desc := "()V", sig := { parameters := [], returnType := none }, accessFlags := 1, code := none }
def k7c1 : Code := { maxStack := 5, maxLocals := 2, code := jdk_42_method_3_code, exceptionTable := #[], attributes := #[] }
def k7m1 : Method := { name := "<init>", desc := "([C)V", sig := { parameters := [(.array .char)], returnType := none }, accessFlags := 1, code := some k7c1 }
def k7c2 : Code := { maxStack := 2, maxLocals := 3, code := jdk_42_method_66_code, exceptionTable := #[], attributes := #[] }
def k7m2 : Method := { name := "equals", desc := "(Ljava/lang/Object;)Z", sig := { parameters := [(.object "java/lang/Object")], returnType := some .boolean }, accessFlags := 1, code := some k7c2 }
def k7c3 : Code := { maxStack := 4, maxLocals := 1, code := jdk_42_method_139_code, exceptionTable := #[], attributes := #[] }
def k7m3 : Method := { name := "valueOf", desc := "(C)Ljava/lang/String;", sig := { parameters := [.char], returnType := some (.object "java/lang/String") }, accessFlags := 9, code := some k7c3 }
def k7c4 : Code := { maxStack := 4, maxLocals := 6, code := jdk_42_method_149_code, exceptionTable := #[], attributes := #[] }
def k7m4 : Method := { name := "<init>", desc := "([CIILjava/lang/Void;)V", sig := { parameters := [(.array .char), .int, .int, (.object "java/lang/Void")], returnType := none }, accessFlags := 2, code := some k7c4 }
def k7c5 : Code := { maxStack := 2, maxLocals := 3, code := jdk_42_method_151_code, exceptionTable := #[], attributes := #[] }
def k7m5 : Method := { name := "<init>", desc := "([BB)V", sig := { parameters := [(.array .byte), .byte], returnType := none }, accessFlags := 0, code := some k7c5 }
/-- java/lang/String -/
def k7 : Class := { plain "java/lang/String" (some 0) with
  accessFlags := 49
  interfaces := #[2, 3, 4, 5, 6]
  cf := some (fileOf pool7 10 #[.nestMembers #[1103]] #[{ accessFlags := 1, nameIndex := 5, descriptorIndex := 6, attributes := #[] }, { accessFlags := 1, nameIndex := 5, descriptorIndex := 1010, attributes := #[] }, { accessFlags := 1, nameIndex := 543, descriptorIndex := 573, attributes := #[] }, { accessFlags := 9, nameIndex := 782, descriptorIndex := 783, attributes := #[] }, { accessFlags := 2, nameIndex := 5, descriptorIndex := 29, attributes := #[] }, { accessFlags := 0, nameIndex := 5, descriptorIndex := 211, attributes := #[] }] 49 2 #[1106, 1108, 575, 1110, 1112] #[{ accessFlags := 18, nameIndex := 13, descriptorIndex := 14, attributes := #[] }, { accessFlags := 18, nameIndex := 17, descriptorIndex := 18, attributes := #[] }, { accessFlags := 2, nameIndex := 21, descriptorIndex := 22, attributes := #[] }, { accessFlags := 2, nameIndex := 25, descriptorIndex := 26, attributes := #[] }, { accessFlags := 26, nameIndex := 1116, descriptorIndex := 1117, attributes := #[] }, { accessFlags := 24, nameIndex := 40, descriptorIndex := 26, attributes := #[] }, { accessFlags := 26, nameIndex := 1101, descriptorIndex := 1102, attributes := #[] }, { accessFlags := 26, nameIndex := 1121, descriptorIndex := 1122, attributes := #[] }, { accessFlags := 25, nameIndex := 599, descriptorIndex := 600, attributes := #[] }, { accessFlags := 24, nameIndex := 1125, descriptorIndex := 18, attributes := #[] }, { accessFlags := 24, nameIndex := 1127, descriptorIndex := 18, attributes := #[] }])
  fields := #[{ name := "value", type := (.array .byte), accessFlags := 18, slot := 0, constantValue := 0 }, { name := "coder", type := .byte, accessFlags := 18, slot := 1, constantValue := 0 }, { name := "hash", type := .int, accessFlags := 2, slot := 2, constantValue := 0 }, { name := "hashIsZero", type := .boolean, accessFlags := 2, slot := 3, constantValue := 0 }, { name := "serialVersionUID", type := .long, accessFlags := 26, slot := 0, constantValue := 0 }, { name := "COMPACT_STRINGS", type := .boolean, accessFlags := 24, slot := 1, constantValue := 0 }, { name := "serialPersistentFields", type := (.array (.object "java/io/ObjectStreamField")), accessFlags := 26, slot := 2, constantValue := 0 }, { name := "REPL", type := .char, accessFlags := 26, slot := 3, constantValue := 0 }, { name := "CASE_INSENSITIVE_ORDER", type := (.object "java/util/Comparator"), accessFlags := 25, slot := 4, constantValue := 0 }, { name := "LATIN1", type := .byte, accessFlags := 24, slot := 5, constantValue := 0 }, { name := "UTF16", type := .byte, accessFlags := 24, slot := 6, constantValue := 0 }]
  methods := #[k7m0, k7m1, k7m2, k7m3, k7m4, k7m5]
  instanceTypes := #[(.array .byte), .byte, .int, .boolean]
  staticTypes := #[.long, .boolean, (.array (.object "java/io/ObjectStreamField")), .char, (.object "java/util/Comparator"), .byte, .byte]
  resolved := Array.replicate 1451 none
  statics := some 0 }

def pool8 : Array CpInfo := pool [(6, .class_ 8), (1, u "java/lang/Object"), (0, u "<init>"), (0, u "()V"), (1, .class_ 14), (1, u "java/lang/StringUTF16"), (31, u "$assertionsDisabled"), (0, u "Z"), (13, u "HI_BYTE_SHIFT"), (0, u "I"), (2, u "LO_BYTE_SHIFT"), (49, .methodref 12 116), (0, .nameAndType 117 118), (0, u "compress"), (0, u "([CI[BII)I"), (3, u "([CII)[B"), (138, u "coderFromArrayLen"), (0, u "([BI)B"), (106, .class_ 371), (1, u "java/lang/StringUTF16$LinesSpliterator"), (58, u "MAX_LENGTH"), (196, .class_ 628), (0, u "java/lang/StringUTF16$CodePointsSpliterator"), (0, .class_ 630), (0, u "java/lang/StringUTF16$CharsSpliterator")] 4

def k8m0 : Method := { name := "<init>", desc := "()V", sig := { parameters := [], returnType := none }, accessFlags := 0, code := none }
def k8c1 : Code := { maxStack := 2, maxLocals := 2, code := jdk_52_method_15_code, exceptionTable := #[], attributes := #[] }
def k8m1 : Method := { name := "coderFromArrayLen", desc := "([BI)B", sig := { parameters := [(.array .byte), .int], returnType := some .byte }, accessFlags := 8, code := some k8c1 }
def k8c2 : Code := { maxStack := 5, maxLocals := 6, code := jdk_52_method_16_code, exceptionTable := #[], attributes := #[] }
def k8m2 : Method := { name := "compress", desc := "([CII)[B", sig := { parameters := [(.array .char), .int, .int], returnType := some (.array .byte) }, accessFlags := 9, code := some k8c2 }
def k8c3 : Code := { maxStack := 3, maxLocals := 7, code := jdk_52_method_21_code, exceptionTable := #[], attributes := #[] }
def k8m3 : Method := { name := "compress", desc := "([CI[BII)I", sig := { parameters := [(.array .char), .int, (.array .byte), .int, .int], returnType := some .int }, accessFlags := 9, code := some k8c3 }
/-- java/lang/StringUTF16 -/
def k8 : Class := { plain "java/lang/StringUTF16" (some 0) with
  accessFlags := 48
  interfaces := #[]
  cf := some (fileOf pool8 12 #[.nestMembers #[627, 629, 369]] #[{ accessFlags := 0, nameIndex := 9, descriptorIndex := 10, attributes := #[] }, { accessFlags := 8, nameIndex := 261, descriptorIndex := 262, attributes := #[] }, { accessFlags := 9, nameIndex := 117, descriptorIndex := 122, attributes := #[] }, { accessFlags := 9, nameIndex := 117, descriptorIndex := 118, attributes := #[] }] 48 6 #[] #[{ accessFlags := 26, nameIndex := 61, descriptorIndex := 62, attributes := #[] }, { accessFlags := 26, nameIndex := 65, descriptorIndex := 62, attributes := #[] }, { accessFlags := 24, nameIndex := 430, descriptorIndex := 62, attributes := #[] }, { accessFlags := 4120, nameIndex := 46, descriptorIndex := 47, attributes := #[] }])
  fields := #[{ name := "HI_BYTE_SHIFT", type := .int, accessFlags := 26, slot := 0, constantValue := 0 }, { name := "LO_BYTE_SHIFT", type := .int, accessFlags := 26, slot := 1, constantValue := 0 }, { name := "MAX_LENGTH", type := .int, accessFlags := 24, slot := 2, constantValue := 0 }, { name := "$assertionsDisabled", type := .boolean, accessFlags := 4120, slot := 3, constantValue := 0 }]
  methods := #[k8m0, k8m1, k8m2, k8m3]
  instanceTypes := #[]
  staticTypes := #[.int, .int, .int, .boolean]
  resolved := Array.replicate 635 none
  statics := none }

def pool9 : Array CpInfo := pool [(1, .methodref 2 3), (0, .class_ 4), (0, .nameAndType 5 6), (0, u "java/lang/Object"), (0, u "<init>"), (0, u "()V"), (0, .methodref 8 9), (0, .class_ 10), (0, .nameAndType 11 12), (0, u "java/util/Objects"), (0, u "requireNonNull"), (0, u "(Ljava/lang/Object;)Ljava/lang/Object;"), (0, .class_ 14), (0, u "java/lang/String"), (0, .fieldref 16 17), (0, .class_ 18), (0, .nameAndType 19 20), (0, u "com/example/durable_state/durablestate/io/MarkedValue"), (0, u "migration"), (0, u "Ljava/lang/String;"), (0, .fieldref 16 22), (0, .nameAndType 23 24), (0, u "value"), (0, u "Ljava/lang/Object;"), (0, u "(Ljava/lang/String;Ljava/lang/Object;)V"), (4, u "markOf"), (0, u "(Ljava/lang/Object;)Ljava/lang/String;")] 2

def k9c0 : Code := { maxStack := 2, maxLocals := 3, code := prog_10_method_1_code, exceptionTable := #[], attributes := #[] }
def k9m0 : Method := { name := "<init>", desc := "(Ljava/lang/String;Ljava/lang/Object;)V", sig := { parameters := [(.object "java/lang/String"), (.object "java/lang/Object")], returnType := none }, accessFlags := 0, code := some k9c0 }
def k9c1 : Code := { maxStack := 1, maxLocals := 1, code := prog_10_method_3_code, exceptionTable := #[], attributes := #[] }
def k9m1 : Method := { name := "markOf", desc := "(Ljava/lang/Object;)Ljava/lang/String;", sig := { parameters := [(.object "java/lang/Object")], returnType := some (.object "java/lang/String") }, accessFlags := 9, code := some k9c1 }
/-- com/example/durable_state/durablestate/io/MarkedValue -/
def k9 : Class := { plain "com/example/durable_state/durablestate/io/MarkedValue" (some 0) with
  accessFlags := 49
  interfaces := #[]
  cf := some (fileOf pool9 16 #[] #[{ accessFlags := 0, nameIndex := 5, descriptorIndex := 25, attributes := #[] }, { accessFlags := 9, nameIndex := 30, descriptorIndex := 31, attributes := #[] }] 49 2 #[] #[{ accessFlags := 18, nameIndex := 19, descriptorIndex := 20, attributes := #[] }, { accessFlags := 18, nameIndex := 23, descriptorIndex := 24, attributes := #[] }])
  fields := #[{ name := "migration", type := (.object "java/lang/String"), accessFlags := 18, slot := 0, constantValue := 0 }, { name := "value", type := (.object "java/lang/Object"), accessFlags := 18, slot := 1, constantValue := 0 }]
  methods := #[k9m0, k9m1]
  instanceTypes := #[(.object "java/lang/String"), (.object "java/lang/Object")]
  staticTypes := #[]
  resolved := Array.replicate 34 none
  statics := none }

def pool10 : Array CpInfo := pool [(2, .class_ 4), (1, u "java/lang/Object"), (0, u "<init>"), (0, u "()V"), (35, .class_ 44), (1, u "java/util/Objects"), (0, u "requireNonNull"), (0, u "(Ljava/lang/Object;)Ljava/lang/Object;")] 137

def k10m0 : Method := { name := "<init>", desc := "()V", sig := { parameters := [], returnType := none }, accessFlags := 2, code := none }
def k10c1 : Code := { maxStack := 2, maxLocals := 1, code := jdk_31_method_10_code, exceptionTable := #[], attributes := #[] }
def k10m1 : Method := { name := "requireNonNull", desc := "(Ljava/lang/Object;)Ljava/lang/Object;", sig := { parameters := [(.object "java/lang/Object")], returnType := some (.object "java/lang/Object") }, accessFlags := 9, code := some k10c1 }
/-- java/util/Objects -/
def k10 : Class := { plain "java/util/Objects" (some 0) with
  accessFlags := 49
  interfaces := #[]
  cf := some (fileOf pool10 42 #[] #[{ accessFlags := 2, nameIndex := 5, descriptorIndex := 6, attributes := #[] }, { accessFlags := 9, nameIndex := 45, descriptorIndex := 46, attributes := #[] }] 49 2 #[] #[])
  fields := #[]
  methods := #[k10m0, k10m1]
  instanceTypes := #[]
  staticTypes := #[]
  resolved := Array.replicate 184 none
  statics := none }

def pool11 : Array CpInfo := pool [(1, .methodref 2 3), (0, .class_ 4), (0, .nameAndType 5 6), (0, u "java/lang/Object"), (0, u "<init>"), (0, u "()V"), (1, .class_ 10), (1, u "java/lang/Number"), (2, .class_ 14), (0, u "java/io/Serializable"), (0, u "serialVersionUID"), (0, u "J")] 20

def k11c0 : Code := { maxStack := 1, maxLocals := 1, code := jdk_18_method_1_code, exceptionTable := #[], attributes := #[] }
def k11m0 : Method := { name := "<init>", desc := "()V", sig := { parameters := [], returnType := none }, accessFlags := 1, code := some k11c0 }
/-- java/lang/Number -/
def k11 : Class := { plain "java/lang/Number" (some 0) with
  accessFlags := 1057
  interfaces := #[2]
  cf := some (fileOf pool11 8 #[] #[{ accessFlags := 1, nameIndex := 5, descriptorIndex := 6, attributes := #[] }] 1057 2 #[13] #[{ accessFlags := 26, nameIndex := 15, descriptorIndex := 16, attributes := #[] }])
  fields := #[{ name := "serialVersionUID", type := .long, accessFlags := 26, slot := 0, constantValue := 0 }]
  methods := #[k11m0]
  instanceTypes := #[]
  staticTypes := #[.long]
  resolved := Array.replicate 37 none
  statics := none }

def pool12 : Array CpInfo := pool [(1, .class_ 2), (0, u "java/lang/Integer"), (16, u "digits"), (0, u "[C"), (46, u "<init>"), (17, u "DigitOnes"), (0, u "[B"), (2, u "DigitTens"), (10, .nameAndType 67 101), (0, u "()V"), (85, u "valueOf"), (0, u "(I)Ljava/lang/Integer;"), (0, .class_ 190), (0, u "java/lang/Integer$IntegerCache"), (0, .fieldref 189 192), (0, .nameAndType 193 194), (0, u "high"), (0, u "I"), (0, .fieldref 189 196), (0, .nameAndType 197 198), (0, u "cache"), (0, u "[Ljava/lang/Integer;"), (0, .methodref 1 200), (0, .nameAndType 67 201), (0, u "(I)V"), (0, .methodref 203 100), (0, .class_ 204), (0, u "java/lang/Number"), (0, .fieldref 1 206), (0, .nameAndType 207 194), (0, u "value"), (94, u "TYPE"), (0, u "Ljava/lang/Class;"), (0, .class_ 305), (0, u "java/lang/Comparable"), (0, .class_ 307), (0, u "java/lang/constant/Constable"), (0, .class_ 309), (0, u "java/lang/constant/ConstantDesc"), (0, u "MIN_VALUE"), (1, u "MAX_VALUE"), (3, u "SIZE"), (1, u "BYTES"), (1, u "serialVersionUID"), (0, u "J")] 131

def k12c0 : Code := { maxStack := 3, maxLocals := 1, code := jdk_33_method_22_code, exceptionTable := #[], attributes := #[] }
def k12m0 : Method := { name := "valueOf", desc := "(I)Ljava/lang/Integer;", sig := { parameters := [.int], returnType := some (.object "java/lang/Integer") }, accessFlags := 9, code := some k12c0 }
def k12c1 : Code := { maxStack := 2, maxLocals := 2, code := jdk_33_method_23_code, exceptionTable := #[], attributes := #[] }
def k12m1 : Method := { name := "<init>", desc := "(I)V", sig := { parameters := [.int], returnType := none }, accessFlags := 1, code := some k12c1 }
/-- java/lang/Integer -/
def k12 : Class := { plain "java/lang/Integer" (some 11) with
  accessFlags := 49
  interfaces := #[3, 5, 6]
  cf := some (fileOf pool12 1 #[.nestMembers #[189]] #[{ accessFlags := 9, nameIndex := 187, descriptorIndex := 188, attributes := #[] }, { accessFlags := 1, nameIndex := 67, descriptorIndex := 201, attributes := #[] }] 49 203 #[304, 306, 308] #[{ accessFlags := 25, nameIndex := 310, descriptorIndex := 194, attributes := #[] }, { accessFlags := 25, nameIndex := 312, descriptorIndex := 194, attributes := #[] }, { accessFlags := 25, nameIndex := 302, descriptorIndex := 303, attributes := #[] }, { accessFlags := 24, nameIndex := 19, descriptorIndex := 20, attributes := #[] }, { accessFlags := 24, nameIndex := 89, descriptorIndex := 86, attributes := #[] }, { accessFlags := 24, nameIndex := 85, descriptorIndex := 86, attributes := #[] }, { accessFlags := 18, nameIndex := 207, descriptorIndex := 194, attributes := #[] }, { accessFlags := 25, nameIndex := 316, descriptorIndex := 194, attributes := #[] }, { accessFlags := 25, nameIndex := 318, descriptorIndex := 194, attributes := #[] }, { accessFlags := 26, nameIndex := 320, descriptorIndex := 321, attributes := #[] }])
  fields := #[{ name := "MIN_VALUE", type := .int, accessFlags := 25, slot := 0, constantValue := 0 }, { name := "MAX_VALUE", type := .int, accessFlags := 25, slot := 1, constantValue := 0 }, { name := "TYPE", type := (.object "java/lang/Class"), accessFlags := 25, slot := 2, constantValue := 0 }, { name := "digits", type := (.array .char), accessFlags := 24, slot := 3, constantValue := 0 }, { name := "DigitTens", type := (.array .byte), accessFlags := 24, slot := 4, constantValue := 0 }, { name := "DigitOnes", type := (.array .byte), accessFlags := 24, slot := 5, constantValue := 0 }, { name := "value", type := .int, accessFlags := 18, slot := 0, constantValue := 0 }, { name := "SIZE", type := .int, accessFlags := 25, slot := 6, constantValue := 0 }, { name := "BYTES", type := .int, accessFlags := 25, slot := 7, constantValue := 0 }, { name := "serialVersionUID", type := .long, accessFlags := 26, slot := 8, constantValue := 0 }]
  methods := #[k12m0, k12m1]
  instanceTypes := #[.int]
  staticTypes := #[.int, .int, (.object "java/lang/Class"), (.array .char), (.array .byte), (.array .byte), .int, .int, .long]
  resolved := Array.replicate 453 none
  statics := none }

def pool13 : Array CpInfo := pool [(2, .class_ 4), (1, u "java/lang/Object"), (0, u "<init>"), (0, u "()V"), (0, .class_ 8), (0, u "java/lang/Integer"), (7, .class_ 18), (1, u "java/lang/Integer$IntegerCache"), (0, u "$assertionsDisabled"), (0, u "Z"), (26, u "high"), (0, u "I"), (8, u "archivedCache"), (0, u "[Ljava/lang/Integer;"), (12, u "cache"), (0, u "low")] 27

def k13m0 : Method := { name := "<init>", desc := "()V", sig := { parameters := [], returnType := none }, accessFlags := 2, code := none }
/-- java/lang/Integer$IntegerCache -/
def k13 : Class := { plain "java/lang/Integer$IntegerCache" (some 0) with
  accessFlags := 48
  interfaces := #[]
  cf := some (fileOf pool13 16 #[.nestHost 7] #[{ accessFlags := 2, nameIndex := 5, descriptorIndex := 6, attributes := #[] }] 48 2 #[] #[{ accessFlags := 24, nameIndex := 72, descriptorIndex := 48, attributes := #[] }, { accessFlags := 24, nameIndex := 47, descriptorIndex := 48, attributes := #[] }, { accessFlags := 24, nameIndex := 71, descriptorIndex := 58, attributes := #[] }, { accessFlags := 8, nameIndex := 57, descriptorIndex := 58, attributes := #[] }, { accessFlags := 4120, nameIndex := 19, descriptorIndex := 20, attributes := #[] }])
  fields := #[{ name := "low", type := .int, accessFlags := 24, slot := 0, constantValue := 0 }, { name := "high", type := .int, accessFlags := 24, slot := 1, constantValue := 0 }, { name := "cache", type := (.array (.object "java/lang/Integer")), accessFlags := 24, slot := 2, constantValue := 0 }, { name := "archivedCache", type := (.array (.object "java/lang/Integer")), accessFlags := 8, slot := 3, constantValue := 0 }, { name := "$assertionsDisabled", type := .boolean, accessFlags := 4120, slot := 4, constantValue := 0 }]
  methods := #[k13m0]
  instanceTypes := #[]
  staticTypes := #[.int, .int, (.array (.object "java/lang/Integer")), (.array (.object "java/lang/Integer")), .boolean]
  resolved := Array.replicate 100 none
  statics := some 1 }

def pool14 : Array CpInfo := pool [(4, .class_ 6), (1, u "java/lang/Object"), (0, u "<init>"), (0, u "()V"), (5, .class_ 16), (1, u "java/lang/StringLatin1"), (73, u "canEncode"), (14, u "(C)Z"), (15, u "$assertionsDisabled"), (0, u "Z"), (98, .class_ 223), (1, u "java/lang/StringLatin1$LinesSpliterator"), (156, u "toBytes"), (1, u "(C)[B"), (7, .class_ 391), (0, u "java/lang/StringLatin1$CharsSpliterator")] 3

def k14m0 : Method := { name := "<init>", desc := "()V", sig := { parameters := [], returnType := none }, accessFlags := 0, code := none }
def k14c1 : Code := { maxStack := 2, maxLocals := 1, code := jdk_43_method_3_code, exceptionTable := #[], attributes := #[] }
def k14m1 : Method := { name := "canEncode", desc := "(C)Z", sig := { parameters := [.char], returnType := some .boolean }, accessFlags := 9, code := some k14c1 }
def k14c2 : Code := { maxStack := 4, maxLocals := 1, code := jdk_43_method_46_code, exceptionTable := #[], attributes := #[] }
def k14m2 : Method := { name := "toBytes", desc := "(C)[B", sig := { parameters := [.char], returnType := some (.array .byte) }, accessFlags := 9, code := some k14c2 }
/-- java/lang/StringLatin1 -/
def k14 : Class := { plain "java/lang/StringLatin1" (some 0) with
  accessFlags := 48
  interfaces := #[]
  cf := some (fileOf pool14 14 #[.nestMembers #[390, 221]] #[{ accessFlags := 0, nameIndex := 7, descriptorIndex := 8, attributes := #[] }, { accessFlags := 9, nameIndex := 90, descriptorIndex := 105, attributes := #[] }, { accessFlags := 9, nameIndex := 380, descriptorIndex := 382, attributes := #[] }] 48 4 #[] #[{ accessFlags := 4120, nameIndex := 121, descriptorIndex := 122, attributes := #[] }])
  fields := #[{ name := "$assertionsDisabled", type := .boolean, accessFlags := 4120, slot := 0, constantValue := 0 }]
  methods := #[k14m0, k14m1, k14m2]
  instanceTypes := #[]
  staticTypes := #[.boolean]
  resolved := Array.replicate 395 none
  statics := none }

def pool15 : Array CpInfo := pool [(2, .class_ 4), (1, u "java/lang/Object"), (0, u "<init>"), (0, u "()V"), (17, .class_ 26), (1, u "jdk/internal/util/Preconditions"), (28, .class_ 56), (0, u "jdk/internal/util/Preconditions$4"), (57, .class_ 115), (0, u "jdk/internal/util/Preconditions$1"), (7, u "SIOOBE_FORMATTER"), (0, u "Ljava/util/function/BiFunction;"), (0, .class_ 126), (0, u "jdk/internal/util/Preconditions$2"), (3, u "AIOOBE_FORMATTER"), (0, .class_ 132), (0, u "jdk/internal/util/Preconditions$3"), (3, u "IOOBE_FORMATTER")] 57

def k15m0 : Method := { name := "<init>", desc := "()V", sig := { parameters := [], returnType := none }, accessFlags := 1, code := none }
/-- jdk/internal/util/Preconditions -/
def k15 : Class := { plain "jdk/internal/util/Preconditions" (some 0) with
  accessFlags := 33
  interfaces := #[]
  cf := some (fileOf pool15 24 #[.nestMembers #[55, 131, 125, 114]] #[{ accessFlags := 1, nameIndex := 5, descriptorIndex := 6, attributes := #[] }] 33 2 #[] #[{ accessFlags := 25, nameIndex := 123, descriptorIndex := 124, attributes := #[] }, { accessFlags := 25, nameIndex := 130, descriptorIndex := 124, attributes := #[] }, { accessFlags := 25, nameIndex := 136, descriptorIndex := 124, attributes := #[] }])
  fields := #[{ name := "SIOOBE_FORMATTER", type := (.object "java/util/function/BiFunction"), accessFlags := 25, slot := 0, constantValue := 0 }, { name := "AIOOBE_FORMATTER", type := (.object "java/util/function/BiFunction"), accessFlags := 25, slot := 1, constantValue := 0 }, { name := "IOOBE_FORMATTER", type := (.object "java/util/function/BiFunction"), accessFlags := 25, slot := 2, constantValue := 0 }]
  methods := #[k15m0]
  instanceTypes := #[]
  staticTypes := #[(.object "java/util/function/BiFunction"), (.object "java/util/function/BiFunction"), (.object "java/util/function/BiFunction")]
  resolved := Array.replicate 194 none
  statics := some 2 }

def pool16 : Array CpInfo := pool [(9, u "<init>"), (6, .class_ 18), (1, u "java/lang/Object"), (0, u "()V"), (1, .class_ 23), (1, u "jdk/internal/util/ArraysSupport"), (0, u "LOG2_ARRAY_LONG_INDEX_SCALE"), (0, u "I"), (2, u "U"), (0, u "Ljdk/internal/misc/Unsafe;"), (8, u "BIG_ENDIAN"), (0, u "Z"), (8, u "LOG2_BYTE_BIT_SIZE"), (4, u "LOG2_ARRAY_INT_INDEX_SCALE"), (54, u "JLA"), (0, u "Ljdk/internal/access/JavaLangAccess;"), (11, u "LOG2_ARRAY_BOOLEAN_INDEX_SCALE"), (9, u "LOG2_ARRAY_BYTE_INDEX_SCALE"), (5, u "LOG2_ARRAY_CHAR_INDEX_SCALE"), (5, u "LOG2_ARRAY_SHORT_INDEX_SCALE"), (18, u "LOG2_ARRAY_FLOAT_INDEX_SCALE"), (24, u "LOG2_ARRAY_DOUBLE_INDEX_SCALE"), (89, u "T_BOOLEAN"), (2, u "T_CHAR"), (1, u "T_FLOAT"), (1, u "T_DOUBLE"), (1, u "T_BYTE"), (1, u "T_SHORT"), (1, u "T_INT"), (1, u "T_LONG"), (1, u "SOFT_MAX_ARRAY_LENGTH")] 83

def k16m0 : Method := { name := "<init>", desc := "()V", sig := { parameters := [], returnType := none }, accessFlags := 2, code := none }
/-- jdk/internal/util/ArraysSupport -/
def k16 : Class := { plain "jdk/internal/util/ArraysSupport" (some 0) with
  accessFlags := 33
  interfaces := #[]
  cf := some (fileOf pool16 21 #[] #[{ accessFlags := 2, nameIndex := 9, descriptorIndex := 19, attributes := #[] }] 33 16 #[] #[{ accessFlags := 24, nameIndex := 28, descriptorIndex := 29, attributes := #[] }, { accessFlags := 26, nameIndex := 38, descriptorIndex := 39, attributes := #[] }, { accessFlags := 25, nameIndex := 121, descriptorIndex := 25, attributes := #[] }, { accessFlags := 25, nameIndex := 131, descriptorIndex := 25, attributes := #[] }, { accessFlags := 25, nameIndex := 137, descriptorIndex := 25, attributes := #[] }, { accessFlags := 25, nameIndex := 143, descriptorIndex := 25, attributes := #[] }, { accessFlags := 25, nameIndex := 53, descriptorIndex := 25, attributes := #[] }, { accessFlags := 25, nameIndex := 24, descriptorIndex := 25, attributes := #[] }, { accessFlags := 25, nameIndex := 162, descriptorIndex := 25, attributes := #[] }, { accessFlags := 25, nameIndex := 187, descriptorIndex := 25, attributes := #[] }, { accessFlags := 26, nameIndex := 48, descriptorIndex := 25, attributes := #[] }, { accessFlags := 25, nameIndex := 277, descriptorIndex := 25, attributes := #[] }, { accessFlags := 25, nameIndex := 280, descriptorIndex := 25, attributes := #[] }, { accessFlags := 25, nameIndex := 282, descriptorIndex := 25, attributes := #[] }, { accessFlags := 25, nameIndex := 284, descriptorIndex := 25, attributes := #[] }, { accessFlags := 25, nameIndex := 286, descriptorIndex := 25, attributes := #[] }, { accessFlags := 25, nameIndex := 288, descriptorIndex := 25, attributes := #[] }, { accessFlags := 25, nameIndex := 290, descriptorIndex := 25, attributes := #[] }, { accessFlags := 25, nameIndex := 292, descriptorIndex := 25, attributes := #[] }, { accessFlags := 26, nameIndex := 108, descriptorIndex := 109, attributes := #[] }, { accessFlags := 25, nameIndex := 294, descriptorIndex := 25, attributes := #[] }])
  fields := #[{ name := "U", type := (.object "jdk/internal/misc/Unsafe"), accessFlags := 24, slot := 0, constantValue := 0 }, { name := "BIG_ENDIAN", type := .boolean, accessFlags := 26, slot := 1, constantValue := 0 }, { name := "LOG2_ARRAY_BOOLEAN_INDEX_SCALE", type := .int, accessFlags := 25, slot := 2, constantValue := 0 }, { name := "LOG2_ARRAY_BYTE_INDEX_SCALE", type := .int, accessFlags := 25, slot := 3, constantValue := 0 }, { name := "LOG2_ARRAY_CHAR_INDEX_SCALE", type := .int, accessFlags := 25, slot := 4, constantValue := 0 }, { name := "LOG2_ARRAY_SHORT_INDEX_SCALE", type := .int, accessFlags := 25, slot := 5, constantValue := 0 }, { name := "LOG2_ARRAY_INT_INDEX_SCALE", type := .int, accessFlags := 25, slot := 6, constantValue := 0 }, { name := "LOG2_ARRAY_LONG_INDEX_SCALE", type := .int, accessFlags := 25, slot := 7, constantValue := 0 }, { name := "LOG2_ARRAY_FLOAT_INDEX_SCALE", type := .int, accessFlags := 25, slot := 8, constantValue := 0 }, { name := "LOG2_ARRAY_DOUBLE_INDEX_SCALE", type := .int, accessFlags := 25, slot := 9, constantValue := 0 }, { name := "LOG2_BYTE_BIT_SIZE", type := .int, accessFlags := 26, slot := 10, constantValue := 0 }, { name := "T_BOOLEAN", type := .int, accessFlags := 25, slot := 11, constantValue := 0 }, { name := "T_CHAR", type := .int, accessFlags := 25, slot := 12, constantValue := 0 }, { name := "T_FLOAT", type := .int, accessFlags := 25, slot := 13, constantValue := 0 }, { name := "T_DOUBLE", type := .int, accessFlags := 25, slot := 14, constantValue := 0 }, { name := "T_BYTE", type := .int, accessFlags := 25, slot := 15, constantValue := 0 }, { name := "T_SHORT", type := .int, accessFlags := 25, slot := 16, constantValue := 0 }, { name := "T_INT", type := .int, accessFlags := 25, slot := 17, constantValue := 0 }, { name := "T_LONG", type := .int, accessFlags := 25, slot := 18, constantValue := 0 }, { name := "JLA", type := (.object "jdk/internal/access/JavaLangAccess"), accessFlags := 26, slot := 19, constantValue := 0 }, { name := "SOFT_MAX_ARRAY_LENGTH", type := .int, accessFlags := 25, slot := 20, constantValue := 0 }]
  methods := #[k16m0]
  instanceTypes := #[]
  staticTypes := #[(.object "jdk/internal/misc/Unsafe"), .boolean, .int, .int, .int, .int, .int, .int, .int, .int, .int, .int, .int, .int, .int, .int, .int, .int, .int, (.object "jdk/internal/access/JavaLangAccess"), .int]
  resolved := Array.replicate 378 none
  statics := none }

def pool17 : Array CpInfo := pool [(1, u "java/lang/Cloneable"), (0, .class_ 1), (0, u "java/lang/Object"), (0, .class_ 3)] 3

/-- java/lang/Cloneable -/
def k17 : Class := { plain "java/lang/Cloneable" (some 0) with
  accessFlags := 1537
  interfaces := #[]
  cf := some (fileOf pool17 2 #[] #[] 1537 4 #[] #[])
  fields := #[]
  methods := #[]
  instanceTypes := #[]
  staticTypes := #[]
  resolved := Array.replicate 8 none
  statics := none }

/-- the primitive byte -/
def k18 : Class := { plain "byte" none with kind := .primitive 'B', accessFlags := 0x411 }
/-- [B -/
def k19 : Class := { plain "[B" (some 0) with kind := .array 18 .byte, interfaces := #[17, 2], accessFlags := 1041 }

/-- the primitive char -/
def k20 : Class := { plain "char" none with kind := .primitive 'C', accessFlags := 0x411 }
/-- [C -/
def k21 : Class := { plain "[C" (some 0) with kind := .array 20 .char, interfaces := #[17, 2], accessFlags := 1041 }

/-- the primitive int -/
def k22 : Class := { plain "int" none with kind := .primitive 'I', accessFlags := 0x411 }
/-- [I -/
def k23 : Class := { plain "[I" (some 0) with kind := .array 22 .int, interfaces := #[17, 2], accessFlags := 1041 }

/-- [Ljava/lang/Integer; -/
def k24 : Class := { plain "[Ljava/lang/Integer;" (some 0) with kind := .array 12 (.object "java/lang/Integer"), interfaces := #[17, 2], accessFlags := 1041 }

def heap : Heap := #[{ cls := 7, slots := #[.long 0, .int 1, .null, .int 0, .null, .int 0, .int 0], vm := .statics 7 },
  { cls := 13, slots := #[.int 0, .int 127, .ref 3, .null, .int 0], vm := .statics 13 },
  { cls := 15, slots := #[.null, .null, .null], vm := .statics 15 },
  { cls := 24, slots := #[.ref 4, .ref 5, .ref 6, .ref 7, .ref 8, .ref 9, .ref 10, .ref 11, .ref 12, .ref 13, .ref 14, .ref 15, .ref 16, .ref 17, .ref 18, .ref 19, .ref 20, .ref 21, .ref 22, .ref 23, .ref 24, .ref 25, .ref 26, .ref 27, .ref 28, .ref 29, .ref 30, .ref 31, .ref 32, .ref 33, .ref 34, .ref 35, .ref 36, .ref 37, .ref 38, .ref 39, .ref 40, .ref 41, .ref 42, .ref 43, .ref 44, .ref 45, .ref 46, .ref 47, .ref 48, .ref 49, .ref 50, .ref 51, .ref 52, .ref 53, .ref 54, .ref 55, .ref 56, .ref 57, .ref 58, .ref 59, .ref 60, .ref 61, .ref 62, .ref 63, .ref 64, .ref 65, .ref 66, .ref 67, .ref 68, .ref 69, .ref 70, .ref 71, .ref 72, .ref 73, .ref 74, .ref 75, .ref 76, .ref 77, .ref 78, .ref 79, .ref 80, .ref 81, .ref 82, .ref 83, .ref 84, .ref 85, .ref 86, .ref 87, .ref 88, .ref 89, .ref 90, .ref 91, .ref 92, .ref 93, .ref 94, .ref 95, .ref 96, .ref 97, .ref 98, .ref 99, .ref 100, .ref 101, .ref 102, .ref 103, .ref 104, .ref 105, .ref 106, .ref 107, .ref 108, .ref 109, .ref 110, .ref 111, .ref 112, .ref 113, .ref 114, .ref 115, .ref 116, .ref 117, .ref 118, .ref 119, .ref 120, .ref 121, .ref 122, .ref 123, .ref 124, .ref 125, .ref 126, .ref 127, .ref 128, .ref 129, .ref 130, .ref 131, .ref 132, .ref 133, .ref 134, .ref 135, .ref 136, .ref 137, .ref 138, .ref 139, .ref 140, .ref 141, .ref 142, .ref 143, .ref 144, .ref 145, .ref 146, .ref 147, .ref 148, .ref 149, .ref 150, .ref 151, .ref 152, .ref 153, .ref 154, .ref 155, .ref 156, .ref 157, .ref 158, .ref 159, .ref 160, .ref 161, .ref 162, .ref 163, .ref 164, .ref 165, .ref 166, .ref 167, .ref 168, .ref 169, .ref 170, .ref 171, .ref 172, .ref 173, .ref 174, .ref 175, .ref 176, .ref 177, .ref 178, .ref 179, .ref 180, .ref 181, .ref 182, .ref 183, .ref 184, .ref 185, .ref 186, .ref 187, .ref 188, .ref 189, .ref 190, .ref 191, .ref 192, .ref 193, .ref 194, .ref 195, .ref 196, .ref 197, .ref 198, .ref 199, .ref 200, .ref 201, .ref 202, .ref 203, .ref 204, .ref 205, .ref 206, .ref 207, .ref 208, .ref 209, .ref 210, .ref 211, .ref 212, .ref 213, .ref 214, .ref 215, .ref 216, .ref 217, .ref 218, .ref 219, .ref 220, .ref 221, .ref 222, .ref 223, .ref 224, .ref 225, .ref 226, .ref 227, .ref 228, .ref 229, .ref 230, .ref 231, .ref 232, .ref 233, .ref 234, .ref 235, .ref 236, .ref 237, .ref 238, .ref 239, .ref 240, .ref 241, .ref 242, .ref 243, .ref 244, .ref 245, .ref 246, .ref 247, .ref 248, .ref 249, .ref 250, .ref 251, .ref 252, .ref 253, .ref 254, .ref 255, .ref 256, .ref 257, .ref 258, .ref 259], vm := .none },
  { cls := 12, slots := #[.int (-128)], vm := .none },
  { cls := 12, slots := #[.int (-127)], vm := .none },
  { cls := 12, slots := #[.int (-126)], vm := .none },
  { cls := 12, slots := #[.int (-125)], vm := .none },
  { cls := 12, slots := #[.int (-124)], vm := .none },
  { cls := 12, slots := #[.int (-123)], vm := .none },
  { cls := 12, slots := #[.int (-122)], vm := .none },
  { cls := 12, slots := #[.int (-121)], vm := .none },
  { cls := 12, slots := #[.int (-120)], vm := .none },
  { cls := 12, slots := #[.int (-119)], vm := .none },
  { cls := 12, slots := #[.int (-118)], vm := .none },
  { cls := 12, slots := #[.int (-117)], vm := .none },
  { cls := 12, slots := #[.int (-116)], vm := .none },
  { cls := 12, slots := #[.int (-115)], vm := .none },
  { cls := 12, slots := #[.int (-114)], vm := .none },
  { cls := 12, slots := #[.int (-113)], vm := .none },
  { cls := 12, slots := #[.int (-112)], vm := .none },
  { cls := 12, slots := #[.int (-111)], vm := .none },
  { cls := 12, slots := #[.int (-110)], vm := .none },
  { cls := 12, slots := #[.int (-109)], vm := .none },
  { cls := 12, slots := #[.int (-108)], vm := .none },
  { cls := 12, slots := #[.int (-107)], vm := .none },
  { cls := 12, slots := #[.int (-106)], vm := .none },
  { cls := 12, slots := #[.int (-105)], vm := .none },
  { cls := 12, slots := #[.int (-104)], vm := .none },
  { cls := 12, slots := #[.int (-103)], vm := .none },
  { cls := 12, slots := #[.int (-102)], vm := .none },
  { cls := 12, slots := #[.int (-101)], vm := .none },
  { cls := 12, slots := #[.int (-100)], vm := .none },
  { cls := 12, slots := #[.int (-99)], vm := .none },
  { cls := 12, slots := #[.int (-98)], vm := .none },
  { cls := 12, slots := #[.int (-97)], vm := .none },
  { cls := 12, slots := #[.int (-96)], vm := .none },
  { cls := 12, slots := #[.int (-95)], vm := .none },
  { cls := 12, slots := #[.int (-94)], vm := .none },
  { cls := 12, slots := #[.int (-93)], vm := .none },
  { cls := 12, slots := #[.int (-92)], vm := .none },
  { cls := 12, slots := #[.int (-91)], vm := .none },
  { cls := 12, slots := #[.int (-90)], vm := .none },
  { cls := 12, slots := #[.int (-89)], vm := .none },
  { cls := 12, slots := #[.int (-88)], vm := .none },
  { cls := 12, slots := #[.int (-87)], vm := .none },
  { cls := 12, slots := #[.int (-86)], vm := .none },
  { cls := 12, slots := #[.int (-85)], vm := .none },
  { cls := 12, slots := #[.int (-84)], vm := .none },
  { cls := 12, slots := #[.int (-83)], vm := .none },
  { cls := 12, slots := #[.int (-82)], vm := .none },
  { cls := 12, slots := #[.int (-81)], vm := .none },
  { cls := 12, slots := #[.int (-80)], vm := .none },
  { cls := 12, slots := #[.int (-79)], vm := .none },
  { cls := 12, slots := #[.int (-78)], vm := .none },
  { cls := 12, slots := #[.int (-77)], vm := .none },
  { cls := 12, slots := #[.int (-76)], vm := .none },
  { cls := 12, slots := #[.int (-75)], vm := .none },
  { cls := 12, slots := #[.int (-74)], vm := .none },
  { cls := 12, slots := #[.int (-73)], vm := .none },
  { cls := 12, slots := #[.int (-72)], vm := .none },
  { cls := 12, slots := #[.int (-71)], vm := .none },
  { cls := 12, slots := #[.int (-70)], vm := .none },
  { cls := 12, slots := #[.int (-69)], vm := .none },
  { cls := 12, slots := #[.int (-68)], vm := .none },
  { cls := 12, slots := #[.int (-67)], vm := .none },
  { cls := 12, slots := #[.int (-66)], vm := .none },
  { cls := 12, slots := #[.int (-65)], vm := .none },
  { cls := 12, slots := #[.int (-64)], vm := .none },
  { cls := 12, slots := #[.int (-63)], vm := .none },
  { cls := 12, slots := #[.int (-62)], vm := .none },
  { cls := 12, slots := #[.int (-61)], vm := .none },
  { cls := 12, slots := #[.int (-60)], vm := .none },
  { cls := 12, slots := #[.int (-59)], vm := .none },
  { cls := 12, slots := #[.int (-58)], vm := .none },
  { cls := 12, slots := #[.int (-57)], vm := .none },
  { cls := 12, slots := #[.int (-56)], vm := .none },
  { cls := 12, slots := #[.int (-55)], vm := .none },
  { cls := 12, slots := #[.int (-54)], vm := .none },
  { cls := 12, slots := #[.int (-53)], vm := .none },
  { cls := 12, slots := #[.int (-52)], vm := .none },
  { cls := 12, slots := #[.int (-51)], vm := .none },
  { cls := 12, slots := #[.int (-50)], vm := .none },
  { cls := 12, slots := #[.int (-49)], vm := .none },
  { cls := 12, slots := #[.int (-48)], vm := .none },
  { cls := 12, slots := #[.int (-47)], vm := .none },
  { cls := 12, slots := #[.int (-46)], vm := .none },
  { cls := 12, slots := #[.int (-45)], vm := .none },
  { cls := 12, slots := #[.int (-44)], vm := .none },
  { cls := 12, slots := #[.int (-43)], vm := .none },
  { cls := 12, slots := #[.int (-42)], vm := .none },
  { cls := 12, slots := #[.int (-41)], vm := .none },
  { cls := 12, slots := #[.int (-40)], vm := .none },
  { cls := 12, slots := #[.int (-39)], vm := .none },
  { cls := 12, slots := #[.int (-38)], vm := .none },
  { cls := 12, slots := #[.int (-37)], vm := .none },
  { cls := 12, slots := #[.int (-36)], vm := .none },
  { cls := 12, slots := #[.int (-35)], vm := .none },
  { cls := 12, slots := #[.int (-34)], vm := .none },
  { cls := 12, slots := #[.int (-33)], vm := .none },
  { cls := 12, slots := #[.int (-32)], vm := .none },
  { cls := 12, slots := #[.int (-31)], vm := .none },
  { cls := 12, slots := #[.int (-30)], vm := .none },
  { cls := 12, slots := #[.int (-29)], vm := .none },
  { cls := 12, slots := #[.int (-28)], vm := .none },
  { cls := 12, slots := #[.int (-27)], vm := .none },
  { cls := 12, slots := #[.int (-26)], vm := .none },
  { cls := 12, slots := #[.int (-25)], vm := .none },
  { cls := 12, slots := #[.int (-24)], vm := .none },
  { cls := 12, slots := #[.int (-23)], vm := .none },
  { cls := 12, slots := #[.int (-22)], vm := .none },
  { cls := 12, slots := #[.int (-21)], vm := .none },
  { cls := 12, slots := #[.int (-20)], vm := .none },
  { cls := 12, slots := #[.int (-19)], vm := .none },
  { cls := 12, slots := #[.int (-18)], vm := .none },
  { cls := 12, slots := #[.int (-17)], vm := .none },
  { cls := 12, slots := #[.int (-16)], vm := .none },
  { cls := 12, slots := #[.int (-15)], vm := .none },
  { cls := 12, slots := #[.int (-14)], vm := .none },
  { cls := 12, slots := #[.int (-13)], vm := .none },
  { cls := 12, slots := #[.int (-12)], vm := .none },
  { cls := 12, slots := #[.int (-11)], vm := .none },
  { cls := 12, slots := #[.int (-10)], vm := .none },
  { cls := 12, slots := #[.int (-9)], vm := .none },
  { cls := 12, slots := #[.int (-8)], vm := .none },
  { cls := 12, slots := #[.int (-7)], vm := .none },
  { cls := 12, slots := #[.int (-6)], vm := .none },
  { cls := 12, slots := #[.int (-5)], vm := .none },
  { cls := 12, slots := #[.int (-4)], vm := .none },
  { cls := 12, slots := #[.int (-3)], vm := .none },
  { cls := 12, slots := #[.int (-2)], vm := .none },
  { cls := 12, slots := #[.int (-1)], vm := .none },
  { cls := 12, slots := #[.int 0], vm := .none },
  { cls := 12, slots := #[.int 1], vm := .none },
  { cls := 12, slots := #[.int 2], vm := .none },
  { cls := 12, slots := #[.int 3], vm := .none },
  { cls := 12, slots := #[.int 4], vm := .none },
  { cls := 12, slots := #[.int 5], vm := .none },
  { cls := 12, slots := #[.int 6], vm := .none },
  { cls := 12, slots := #[.int 7], vm := .none },
  { cls := 12, slots := #[.int 8], vm := .none },
  { cls := 12, slots := #[.int 9], vm := .none },
  { cls := 12, slots := #[.int 10], vm := .none },
  { cls := 12, slots := #[.int 11], vm := .none },
  { cls := 12, slots := #[.int 12], vm := .none },
  { cls := 12, slots := #[.int 13], vm := .none },
  { cls := 12, slots := #[.int 14], vm := .none },
  { cls := 12, slots := #[.int 15], vm := .none },
  { cls := 12, slots := #[.int 16], vm := .none },
  { cls := 12, slots := #[.int 17], vm := .none },
  { cls := 12, slots := #[.int 18], vm := .none },
  { cls := 12, slots := #[.int 19], vm := .none },
  { cls := 12, slots := #[.int 20], vm := .none },
  { cls := 12, slots := #[.int 21], vm := .none },
  { cls := 12, slots := #[.int 22], vm := .none },
  { cls := 12, slots := #[.int 23], vm := .none },
  { cls := 12, slots := #[.int 24], vm := .none },
  { cls := 12, slots := #[.int 25], vm := .none },
  { cls := 12, slots := #[.int 26], vm := .none },
  { cls := 12, slots := #[.int 27], vm := .none },
  { cls := 12, slots := #[.int 28], vm := .none },
  { cls := 12, slots := #[.int 29], vm := .none },
  { cls := 12, slots := #[.int 30], vm := .none },
  { cls := 12, slots := #[.int 31], vm := .none },
  { cls := 12, slots := #[.int 32], vm := .none },
  { cls := 12, slots := #[.int 33], vm := .none },
  { cls := 12, slots := #[.int 34], vm := .none },
  { cls := 12, slots := #[.int 35], vm := .none },
  { cls := 12, slots := #[.int 36], vm := .none },
  { cls := 12, slots := #[.int 37], vm := .none },
  { cls := 12, slots := #[.int 38], vm := .none },
  { cls := 12, slots := #[.int 39], vm := .none },
  { cls := 12, slots := #[.int 40], vm := .none },
  { cls := 12, slots := #[.int 41], vm := .none },
  { cls := 12, slots := #[.int 42], vm := .none },
  { cls := 12, slots := #[.int 43], vm := .none },
  { cls := 12, slots := #[.int 44], vm := .none },
  { cls := 12, slots := #[.int 45], vm := .none },
  { cls := 12, slots := #[.int 46], vm := .none },
  { cls := 12, slots := #[.int 47], vm := .none },
  { cls := 12, slots := #[.int 48], vm := .none },
  { cls := 12, slots := #[.int 49], vm := .none },
  { cls := 12, slots := #[.int 50], vm := .none },
  { cls := 12, slots := #[.int 51], vm := .none },
  { cls := 12, slots := #[.int 52], vm := .none },
  { cls := 12, slots := #[.int 53], vm := .none },
  { cls := 12, slots := #[.int 54], vm := .none },
  { cls := 12, slots := #[.int 55], vm := .none },
  { cls := 12, slots := #[.int 56], vm := .none },
  { cls := 12, slots := #[.int 57], vm := .none },
  { cls := 12, slots := #[.int 58], vm := .none },
  { cls := 12, slots := #[.int 59], vm := .none },
  { cls := 12, slots := #[.int 60], vm := .none },
  { cls := 12, slots := #[.int 61], vm := .none },
  { cls := 12, slots := #[.int 62], vm := .none },
  { cls := 12, slots := #[.int 63], vm := .none },
  { cls := 12, slots := #[.int 64], vm := .none },
  { cls := 12, slots := #[.int 65], vm := .none },
  { cls := 12, slots := #[.int 66], vm := .none },
  { cls := 12, slots := #[.int 67], vm := .none },
  { cls := 12, slots := #[.int 68], vm := .none },
  { cls := 12, slots := #[.int 69], vm := .none },
  { cls := 12, slots := #[.int 70], vm := .none },
  { cls := 12, slots := #[.int 71], vm := .none },
  { cls := 12, slots := #[.int 72], vm := .none },
  { cls := 12, slots := #[.int 73], vm := .none },
  { cls := 12, slots := #[.int 74], vm := .none },
  { cls := 12, slots := #[.int 75], vm := .none },
  { cls := 12, slots := #[.int 76], vm := .none },
  { cls := 12, slots := #[.int 77], vm := .none },
  { cls := 12, slots := #[.int 78], vm := .none },
  { cls := 12, slots := #[.int 79], vm := .none },
  { cls := 12, slots := #[.int 80], vm := .none },
  { cls := 12, slots := #[.int 81], vm := .none },
  { cls := 12, slots := #[.int 82], vm := .none },
  { cls := 12, slots := #[.int 83], vm := .none },
  { cls := 12, slots := #[.int 84], vm := .none },
  { cls := 12, slots := #[.int 85], vm := .none },
  { cls := 12, slots := #[.int 86], vm := .none },
  { cls := 12, slots := #[.int 87], vm := .none },
  { cls := 12, slots := #[.int 88], vm := .none },
  { cls := 12, slots := #[.int 89], vm := .none },
  { cls := 12, slots := #[.int 90], vm := .none },
  { cls := 12, slots := #[.int 91], vm := .none },
  { cls := 12, slots := #[.int 92], vm := .none },
  { cls := 12, slots := #[.int 93], vm := .none },
  { cls := 12, slots := #[.int 94], vm := .none },
  { cls := 12, slots := #[.int 95], vm := .none },
  { cls := 12, slots := #[.int 96], vm := .none },
  { cls := 12, slots := #[.int 97], vm := .none },
  { cls := 12, slots := #[.int 98], vm := .none },
  { cls := 12, slots := #[.int 99], vm := .none },
  { cls := 12, slots := #[.int 100], vm := .none },
  { cls := 12, slots := #[.int 101], vm := .none },
  { cls := 12, slots := #[.int 102], vm := .none },
  { cls := 12, slots := #[.int 103], vm := .none },
  { cls := 12, slots := #[.int 104], vm := .none },
  { cls := 12, slots := #[.int 105], vm := .none },
  { cls := 12, slots := #[.int 106], vm := .none },
  { cls := 12, slots := #[.int 107], vm := .none },
  { cls := 12, slots := #[.int 108], vm := .none },
  { cls := 12, slots := #[.int 109], vm := .none },
  { cls := 12, slots := #[.int 110], vm := .none },
  { cls := 12, slots := #[.int 111], vm := .none },
  { cls := 12, slots := #[.int 112], vm := .none },
  { cls := 12, slots := #[.int 113], vm := .none },
  { cls := 12, slots := #[.int 114], vm := .none },
  { cls := 12, slots := #[.int 115], vm := .none },
  { cls := 12, slots := #[.int 116], vm := .none },
  { cls := 12, slots := #[.int 117], vm := .none },
  { cls := 12, slots := #[.int 118], vm := .none },
  { cls := 12, slots := #[.int 119], vm := .none },
  { cls := 12, slots := #[.int 120], vm := .none },
  { cls := 12, slots := #[.int 121], vm := .none },
  { cls := 12, slots := #[.int 122], vm := .none },
  { cls := 12, slots := #[.int 123], vm := .none },
  { cls := 12, slots := #[.int 124], vm := .none },
  { cls := 12, slots := #[.int 125], vm := .none },
  { cls := 12, slots := #[.int 126], vm := .none },
  { cls := 12, slots := #[.int 127], vm := .none }]
def classes : Array Class := #[k0, k1, k2, k3, k4, k5, k6, k7, k8, k9, k10, k11, k12, k13, k14, k15, k16, k17, k18, k19, k20, k21, k22, k23, k24]
def interned : List (Array UInt16 × Addr) := []
def slotsUsed : Nat := 527
def theMethod : MethodId := ⟨1, 2⟩
def args0 : Array Value := #[.int 1, .int 2, .int 3, .int 4, .int 5]
def aboutOver (below : List Frame) : State where
  vm := { classes := classes, interned := interned.toArray }
  heap := heap
  slotsUsed := slotsUsed
  threads := #[{ frames := .invoking theMethod args0 :: below }]
def below0 : List Frame := [.native { method := ⟨0, 0⟩, args := #[] }]
def about1 : State := aboutOver below0
def p0 : Program := .bare "" "" ""
def e0 : Env := launch0.env 0 0 0
theorem w_frames : about1.frames = Frame.invoking theMethod args0 :: below0 := rfl
set_option maxRecDepth 65536 in
theorem w_args : argsFit about1.vm theMethod args0 = true := by decide +kernel
set_option maxRecDepth 65536 in
theorem w_heap : heapFits about1 = true := by decide +kernel
set_option maxRecDepth 65536 in
theorem w_runnable : about1.curStatus? = some .runnable := by decide +kernel
set_option maxRecDepth 65536 in
theorem w_alone : about1.alone = true := by decide +kernel
set_option maxRecDepth 65536 in
theorem w_named : about1.methodNamed? x = some theMethod := by decide +kernel
set_option maxRecDepth 65536 in
theorem w_hears : about1.hears theMethod below0 = true := by decide +kernel
set_option maxRecDepth 65536 in
theorem w_ripe : about1.ripe theMethod args0 below0 = true := by decide +kernel
theorem w_running : about1.status = .running := rfl
set_option maxRecDepth 65536 in
theorem w_room : about1.hasRoom e0.platform room_1 = true :=
  launch0.hasRoom_least _ room_1 (by decide +kernel) (by decide +kernel) (by decide +kernel) (by decide +kernel) (by decide +kernel) (by decide +kernel)
theorem allAtoms_all (ts : List Jvm.Cond) (a : Array Jvm.Value) (st : Jvm.State) : (allAtoms ts).before a st = ts.all (fun c => c.before a st) := by
  induction ts with
  | nil => rfl
  | cons c t ih =>
    show (Jvm.Cond.and c (allAtoms t)).before a st = _
    rw [Jvm.Cond.before_and, ih, List.all_cons]
def words1 : List Jvm.Cond := Jvm.Cond.code x code maxLocals ret :: tables_1
/-- a 'code' word, met by the world's own term for the bytes: nothing is compared byte by byte -/
theorem code_word {y : MethodName} {bytes : ByteArray} {mx : Nat} {rt : Option FieldType} {a : Array Value} {s : State} {m : MethodId} {meth : Method} {c : Code} (h1 : s.methodNamed? y = some m) (h2 : s.vm.method? m = some meth) (h3 : meth.code = some c) (h4 : c.code = bytes)
    (h5 : (c.maxLocals == mx && c.exceptionTable.isEmpty && decide (c.maxStack ≤ mostOperands) && decide (meth.sig.returnType = rt) && !meth.locks && decide (parseMethodDescriptor y.desc = some meth.sig)) = true) : (Jvm.Cond.code y bytes mx rt).before a s = true := by
  simp only [Bool.and_eq_true, beq_iff_eq, Bool.not_eq_true', decide_eq_true_eq] at h5
  obtain ⟨⟨⟨⟨⟨g1, g2⟩, g3⟩, g4⟩, g5⟩, g6⟩ := h5
  simp [Cond.before, Cond.holds, Cond.value, h1, h2, h3, h4, g1, g2, g3, g4, g5, g6]
def isCode : Jvm.Cond → Bool
  | .code _ _ _ _ => true
  | _ => false
theorem all_split {L : List Jvm.Cond} {P : Jvm.Cond → Bool} (h1 : L.all (fun c => isCode c || P c) = true) (h2 : ∀ c ∈ L.filter isCode, P c = true) : L.all P = true := by
  refine List.all_eq_true.mpr fun c hc => ?_
  have h := List.all_eq_true.mp h1 c hc
  rcases Bool.eq_false_or_eq_true (isCode c) with hi | hi
  · exact h2 c (List.mem_filter.mpr ⟨hc, hi⟩)
  · simpa [hi] using h
set_option maxRecDepth 65536 in
theorem w_c0 : (Jvm.Cond.code x code maxLocals ret).before args0 about1 = true := code_word (m := ⟨1, 2⟩) (meth := k1m2) (c := k1c2) (by decide +kernel) rfl rfl rfl (by decide +kernel)
set_option maxRecDepth 65536 in
theorem w_c1 : (Jvm.Cond.code ({ cls := "com/example/durable_state/durablestate/io/MarkedValueMarkOfPinLaw", name := "drawn", desc := "(IIII)Ljava/lang/String;" } : Jvm.MethodName) method_2_code (7 : Nat) (Option.some (Jvm.ClassFile.FieldType.object "java/lang/String"))).before args0 about1 = true := code_word (m := ⟨1, 1⟩) (meth := k1m1) (c := k1c1) (by decide +kernel) rfl rfl rfl (by decide +kernel)
set_option maxRecDepth 65536 in
theorem w_c2 : (Jvm.Cond.code ({ cls := "java/lang/String", name := "<init>", desc := "([C)V" } : Jvm.MethodName) jdk_42_method_3_code (2 : Nat) (Option.none : Option Jvm.ClassFile.FieldType)).before args0 about1 = true := code_word (m := ⟨7, 1⟩) (meth := k7m1) (c := k7c1) (by decide +kernel) rfl rfl rfl (by decide +kernel)
set_option maxRecDepth 65536 in
theorem w_c3 : (Jvm.Cond.code ({ cls := "java/lang/String", name := "<init>", desc := "([CIILjava/lang/Void;)V" } : Jvm.MethodName) jdk_42_method_149_code (6 : Nat) (Option.none : Option Jvm.ClassFile.FieldType)).before args0 about1 = true := code_word (m := ⟨7, 4⟩) (meth := k7m4) (c := k7c4) (by decide +kernel) rfl rfl rfl (by decide +kernel)
set_option maxRecDepth 65536 in
theorem w_c4 : (Jvm.Cond.code ({ cls := "java/lang/Object", name := "<init>", desc := "()V" } : Jvm.MethodName) object_method_1_code (1 : Nat) (Option.none : Option Jvm.ClassFile.FieldType)).before args0 about1 = true := code_word (m := ⟨0, 0⟩) (meth := k0m0) (c := k0c0) (by decide +kernel) rfl rfl rfl (by decide +kernel)
set_option maxRecDepth 65536 in
theorem w_c5 : (Jvm.Cond.code ({ cls := "java/lang/StringUTF16", name := "compress", desc := "([CII)[B" } : Jvm.MethodName) jdk_52_method_16_code (6 : Nat) (Option.some (Jvm.ClassFile.FieldType.array Jvm.ClassFile.FieldType.byte))).before args0 about1 = true := code_word (m := ⟨8, 2⟩) (meth := k8m2) (c := k8c2) (by decide +kernel) rfl rfl rfl (by decide +kernel)
set_option maxRecDepth 65536 in
theorem w_c6 : (Jvm.Cond.code ({ cls := "java/lang/StringUTF16", name := "compress", desc := "([CI[BII)I" } : Jvm.MethodName) jdk_52_method_21_code (7 : Nat) (Option.some Jvm.ClassFile.FieldType.int)).before args0 about1 = true := code_word (m := ⟨8, 3⟩) (meth := k8m3) (c := k8c3) (by decide +kernel) rfl rfl rfl (by decide +kernel)
set_option maxRecDepth 65536 in
theorem w_c7 : (Jvm.Cond.code ({ cls := "java/lang/StringUTF16", name := "coderFromArrayLen", desc := "([BI)B" } : Jvm.MethodName) jdk_52_method_15_code (2 : Nat) (Option.some Jvm.ClassFile.FieldType.byte)).before args0 about1 = true := code_word (m := ⟨8, 1⟩) (meth := k8m1) (c := k8c1) (by decide +kernel) rfl rfl rfl (by decide +kernel)
set_option maxRecDepth 65536 in
theorem w_c8 : (Jvm.Cond.code ({ cls := "com/example/durable_state/durablestate/io/MarkedValue", name := "<init>", desc := "(Ljava/lang/String;Ljava/lang/Object;)V" } : Jvm.MethodName) prog_10_method_1_code (3 : Nat) (Option.none : Option Jvm.ClassFile.FieldType)).before args0 about1 = true := code_word (m := ⟨9, 0⟩) (meth := k9m0) (c := k9c0) (by decide +kernel) rfl rfl rfl (by decide +kernel)
set_option maxRecDepth 65536 in
theorem w_c9 : (Jvm.Cond.code ({ cls := "java/util/Objects", name := "requireNonNull", desc := "(Ljava/lang/Object;)Ljava/lang/Object;" } : Jvm.MethodName) jdk_31_method_10_code (1 : Nat) (Option.some (Jvm.ClassFile.FieldType.object "java/lang/Object"))).before args0 about1 = true := code_word (m := ⟨10, 1⟩) (meth := k10m1) (c := k10c1) (by decide +kernel) rfl rfl rfl (by decide +kernel)
set_option maxRecDepth 65536 in
theorem w_c10 : (Jvm.Cond.code ({ cls := "com/example/durable_state/durablestate/io/MarkedValue", name := "markOf", desc := "(Ljava/lang/Object;)Ljava/lang/String;" } : Jvm.MethodName) prog_10_method_3_code (1 : Nat) (Option.some (Jvm.ClassFile.FieldType.object "java/lang/String"))).before args0 about1 = true := code_word (m := ⟨9, 1⟩) (meth := k9m1) (c := k9c1) (by decide +kernel) rfl rfl rfl (by decide +kernel)
set_option maxRecDepth 65536 in
theorem w_c11 : (Jvm.Cond.code ({ cls := "java/lang/String", name := "equals", desc := "(Ljava/lang/Object;)Z" } : Jvm.MethodName) jdk_42_method_66_code (3 : Nat) (Option.some Jvm.ClassFile.FieldType.boolean)).before args0 about1 = true := code_word (m := ⟨7, 2⟩) (meth := k7m2) (c := k7c2) (by decide +kernel) rfl rfl rfl (by decide +kernel)
set_option maxRecDepth 65536 in
theorem w_c12 : (Jvm.Cond.code ({ cls := "java/lang/Integer", name := "valueOf", desc := "(I)Ljava/lang/Integer;" } : Jvm.MethodName) jdk_33_method_22_code (1 : Nat) (Option.some (Jvm.ClassFile.FieldType.object "java/lang/Integer"))).before args0 about1 = true := code_word (m := ⟨12, 0⟩) (meth := k12m0) (c := k12c0) (by decide +kernel) rfl rfl rfl (by decide +kernel)
set_option maxRecDepth 65536 in
theorem w_c13 : (Jvm.Cond.code ({ cls := "java/lang/Integer", name := "<init>", desc := "(I)V" } : Jvm.MethodName) jdk_33_method_23_code (2 : Nat) (Option.none : Option Jvm.ClassFile.FieldType)).before args0 about1 = true := code_word (m := ⟨12, 1⟩) (meth := k12m1) (c := k12c1) (by decide +kernel) rfl rfl rfl (by decide +kernel)
set_option maxRecDepth 65536 in
theorem w_c14 : (Jvm.Cond.code ({ cls := "java/lang/Number", name := "<init>", desc := "()V" } : Jvm.MethodName) jdk_18_method_1_code (1 : Nat) (Option.none : Option Jvm.ClassFile.FieldType)).before args0 about1 = true := code_word (m := ⟨11, 0⟩) (meth := k11m0) (c := k11c0) (by decide +kernel) rfl rfl rfl (by decide +kernel)
set_option maxRecDepth 65536 in
theorem w_c15 : (Jvm.Cond.code ({ cls := "java/lang/String", name := "valueOf", desc := "(C)Ljava/lang/String;" } : Jvm.MethodName) jdk_42_method_139_code (1 : Nat) (Option.some (Jvm.ClassFile.FieldType.object "java/lang/String"))).before args0 about1 = true := code_word (m := ⟨7, 3⟩) (meth := k7m3) (c := k7c3) (by decide +kernel) rfl rfl rfl (by decide +kernel)
set_option maxRecDepth 65536 in
theorem w_c16 : (Jvm.Cond.code ({ cls := "java/lang/StringLatin1", name := "canEncode", desc := "(C)Z" } : Jvm.MethodName) jdk_43_method_3_code (1 : Nat) (Option.some Jvm.ClassFile.FieldType.boolean)).before args0 about1 = true := code_word (m := ⟨14, 1⟩) (meth := k14m1) (c := k14c1) (by decide +kernel) rfl rfl rfl (by decide +kernel)
set_option maxRecDepth 65536 in
theorem w_c17 : (Jvm.Cond.code ({ cls := "java/lang/StringLatin1", name := "toBytes", desc := "(C)[B" } : Jvm.MethodName) jdk_43_method_46_code (1 : Nat) (Option.some (Jvm.ClassFile.FieldType.array Jvm.ClassFile.FieldType.byte))).before args0 about1 = true := code_word (m := ⟨14, 2⟩) (meth := k14m2) (c := k14c2) (by decide +kernel) rfl rfl rfl (by decide +kernel)
set_option maxRecDepth 65536 in
theorem w_c18 : (Jvm.Cond.code ({ cls := "java/lang/String", name := "<init>", desc := "([BB)V" } : Jvm.MethodName) jdk_42_method_151_code (3 : Nat) (Option.none : Option Jvm.ClassFile.FieldType)).before args0 about1 = true := code_word (m := ⟨7, 5⟩) (meth := k7m5) (c := k7c5) (by decide +kernel) rfl rfl rfl (by decide +kernel)
def codes1 : List Jvm.Cond := [Jvm.Cond.code x code maxLocals ret, Jvm.Cond.code ({ cls := "com/example/durable_state/durablestate/io/MarkedValueMarkOfPinLaw", name := "drawn", desc := "(IIII)Ljava/lang/String;" } : Jvm.MethodName) method_2_code (7 : Nat) (Option.some (Jvm.ClassFile.FieldType.object "java/lang/String")), Jvm.Cond.code ({ cls := "java/lang/String", name := "<init>", desc := "([C)V" } : Jvm.MethodName) jdk_42_method_3_code (2 : Nat) (Option.none : Option Jvm.ClassFile.FieldType), Jvm.Cond.code ({ cls := "java/lang/String", name := "<init>", desc := "([CIILjava/lang/Void;)V" } : Jvm.MethodName) jdk_42_method_149_code (6 : Nat) (Option.none : Option Jvm.ClassFile.FieldType), Jvm.Cond.code ({ cls := "java/lang/Object", name := "<init>", desc := "()V" } : Jvm.MethodName) object_method_1_code (1 : Nat) (Option.none : Option Jvm.ClassFile.FieldType), Jvm.Cond.code ({ cls := "java/lang/StringUTF16", name := "compress", desc := "([CII)[B" } : Jvm.MethodName) jdk_52_method_16_code (6 : Nat) (Option.some (Jvm.ClassFile.FieldType.array Jvm.ClassFile.FieldType.byte)), Jvm.Cond.code ({ cls := "java/lang/StringUTF16", name := "compress", desc := "([CI[BII)I" } : Jvm.MethodName) jdk_52_method_21_code (7 : Nat) (Option.some Jvm.ClassFile.FieldType.int), Jvm.Cond.code ({ cls := "java/lang/StringUTF16", name := "coderFromArrayLen", desc := "([BI)B" } : Jvm.MethodName) jdk_52_method_15_code (2 : Nat) (Option.some Jvm.ClassFile.FieldType.byte), Jvm.Cond.code ({ cls := "com/example/durable_state/durablestate/io/MarkedValue", name := "<init>", desc := "(Ljava/lang/String;Ljava/lang/Object;)V" } : Jvm.MethodName) prog_10_method_1_code (3 : Nat) (Option.none : Option Jvm.ClassFile.FieldType), Jvm.Cond.code ({ cls := "java/util/Objects", name := "requireNonNull", desc := "(Ljava/lang/Object;)Ljava/lang/Object;" } : Jvm.MethodName) jdk_31_method_10_code (1 : Nat) (Option.some (Jvm.ClassFile.FieldType.object "java/lang/Object")), Jvm.Cond.code ({ cls := "com/example/durable_state/durablestate/io/MarkedValue", name := "markOf", desc := "(Ljava/lang/Object;)Ljava/lang/String;" } : Jvm.MethodName) prog_10_method_3_code (1 : Nat) (Option.some (Jvm.ClassFile.FieldType.object "java/lang/String")), Jvm.Cond.code ({ cls := "java/lang/String", name := "equals", desc := "(Ljava/lang/Object;)Z" } : Jvm.MethodName) jdk_42_method_66_code (3 : Nat) (Option.some Jvm.ClassFile.FieldType.boolean), Jvm.Cond.code ({ cls := "java/lang/Integer", name := "valueOf", desc := "(I)Ljava/lang/Integer;" } : Jvm.MethodName) jdk_33_method_22_code (1 : Nat) (Option.some (Jvm.ClassFile.FieldType.object "java/lang/Integer")), Jvm.Cond.code ({ cls := "java/lang/Integer", name := "<init>", desc := "(I)V" } : Jvm.MethodName) jdk_33_method_23_code (2 : Nat) (Option.none : Option Jvm.ClassFile.FieldType), Jvm.Cond.code ({ cls := "java/lang/Number", name := "<init>", desc := "()V" } : Jvm.MethodName) jdk_18_method_1_code (1 : Nat) (Option.none : Option Jvm.ClassFile.FieldType), Jvm.Cond.code ({ cls := "java/lang/String", name := "valueOf", desc := "(C)Ljava/lang/String;" } : Jvm.MethodName) jdk_42_method_139_code (1 : Nat) (Option.some (Jvm.ClassFile.FieldType.object "java/lang/String")), Jvm.Cond.code ({ cls := "java/lang/StringLatin1", name := "canEncode", desc := "(C)Z" } : Jvm.MethodName) jdk_43_method_3_code (1 : Nat) (Option.some Jvm.ClassFile.FieldType.boolean), Jvm.Cond.code ({ cls := "java/lang/StringLatin1", name := "toBytes", desc := "(C)[B" } : Jvm.MethodName) jdk_43_method_46_code (1 : Nat) (Option.some (Jvm.ClassFile.FieldType.array Jvm.ClassFile.FieldType.byte)), Jvm.Cond.code ({ cls := "java/lang/String", name := "<init>", desc := "([BB)V" } : Jvm.MethodName) jdk_42_method_151_code (3 : Nat) (Option.none : Option Jvm.ClassFile.FieldType)]
set_option maxRecDepth 65536 in
theorem codes_eq : words1.filter isCode = codes1 := rfl
theorem w_codes : ∀ c ∈ words1.filter isCode, c.before args0 about1 = true := by
  rw [codes_eq]
  intro c hc
  simp only [codes1, List.mem_cons, List.not_mem_nil, or_false] at hc
  rcases hc with rfl | rfl | rfl | rfl | rfl | rfl | rfl | rfl | rfl | rfl | rfl | rfl | rfl | rfl | rfl | rfl | rfl | rfl | rfl
  · exact w_c0
  · exact w_c1
  · exact w_c2
  · exact w_c3
  · exact w_c4
  · exact w_c5
  · exact w_c6
  · exact w_c7
  · exact w_c8
  · exact w_c9
  · exact w_c10
  · exact w_c11
  · exact w_c12
  · exact w_c13
  · exact w_c14
  · exact w_c15
  · exact w_c16
  · exact w_c17
  · exact w_c18
set_option maxRecDepth 65536 in
theorem w_t1 : (words1.take 24).all (fun c => isCode c || c.before args0 about1) = true := by decide +kernel
set_option maxRecDepth 65536 in
theorem w_t2 : ((words1.drop 24).take 24).all (fun c => isCode c || c.before args0 about1) = true := by decide +kernel
set_option maxRecDepth 65536 in
theorem w_t3 : (((words1.drop 24).drop 24).take 24).all (fun c => isCode c || c.before args0 about1) = true := by decide +kernel
set_option maxRecDepth 65536 in
theorem w_t4 : ((((words1.drop 24).drop 24).drop 24).take 24).all (fun c => isCode c || c.before args0 about1) = true := by decide +kernel
set_option maxRecDepth 65536 in
theorem w_t5 : ((((words1.drop 24).drop 24).drop 24).drop 24).all (fun c => isCode c || c.before args0 about1) = true := by decide +kernel
theorem w_tables : (allAtoms (Jvm.Cond.code x code maxLocals ret :: tables_1)).before args0 about1 = true := by
  rw [allAtoms_all]
  show words1.all (fun c => c.before args0 about1) = true
  refine all_split ?_ w_codes
  rw [← List.take_append_drop 24 words1, List.all_append, w_t1, ← List.take_append_drop 24 (words1.drop 24), List.all_append, w_t2, ← List.take_append_drop 24 ((words1.drop 24).drop 24), List.all_append, w_t3, ← List.take_append_drop 24 (((words1.drop 24).drop 24).drop 24), List.all_append, w_t4, w_t5]
  rfl
set_option maxRecDepth 65536 in
theorem w_rest : rest_1_c.before args0 about1 = true := by decide +kernel
set_option maxRecDepth 65536 in
theorem w_case : (Jvm.Cond.and given_1 narrow_1).before args0 about1 = true := by decide +kernel
set_option maxRecDepth 65536 in
theorem w_consts : constsHeld consts_1 about1 := Jvm.Lit.constsHeldB_iff.mp (by decide +kernel)
theorem w_applies : (headSpec (Jvm.Cond.code x code maxLocals ret :: tables_1) room_1).applies x e0.platform about1 = true :=
  (Spec.applies_iff w_frames).mpr ⟨w_running, w_runnable, w_alone, w_named, w_hears, w_ripe, w_room, w_tables⟩
theorem atStart : AtStart classFile x code maxLocals ret World_1 tables_1 room_1 Calls_1 rest_1 Pre_1 launch0 p0 e0 about1 theMethod args0 below0 :=
  ⟨lists_1, trivial, launch0.admits_env _ _ _, launch0.least_env, fairChoices_fair.cas, fairChoices_fair.clock, w_frames, w_args, w_heap, w_applies, ⟨w_consts, trivial⟩, w_rest, w_case⟩
end start1
theorem witness_1 : WitnessClaimed_1 := ⟨start1.p0, start1.e0, start1.about1, start1.theMethod, start1.args0, start1.below0, start1.atStart⟩
end Jvm.Pilot.@@N@@
